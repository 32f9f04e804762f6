import Derived.Test.Qxb6602854aPointAll
import Derived.Test.Qxb6602854aGuards
import Derived.Test.Qxb6602854aLaw8
namespace Go.Proofs.Qxb6602854a.bys
open Go.RowKit

/-! ### the guards: the law answers true at once -/
section
variable (a0 a2 : Option Addr) (n0 c0 n2 c2 : Nat) (b : Bool) (s p : Int) (w : World)
theorem law7_g1 (h0 : n0 ≤ maxLen) (h2 : n2 ≤ maxLen) (h : ¬ n0 + n2 ≤ 1048576) :
    Calls Try.prog 7 #[.slice a0 n0 c0, .bool b, .slice a2 n2 c2, .int .i64 s, .int .i64 p] w fun e w' => e = .returned (.bool true) ∧ w' = w := by
  go_enter Try.func7, Try.ntmps7
  go_wp2_with (go_at_call 17; refine (zzb17_no _ _ _ _ _ _ _ _ _ _ h0 h2 h).mono ?_; rintro e w' ⟨rfl, rfl⟩)
  go_ret
  exact ⟨rfl, rfl⟩
theorem law7_g2 (h : n0 + n2 ≤ 1048576) (g : ¬ (n0 ≤ 524288 ∧ n2 ≤ 524288)) :
    Calls Try.prog 7 #[.slice a0 n0 c0, .bool b, .slice a2 n2 c2, .int .i64 s, .int .i64 p] w fun e w' => e = .returned (.bool true) ∧ w' = w := by
  by_cases g0 : n0 ≤ 524288
  · have g2 : ¬ n2 ≤ 524288 := by omega
    clear g
    go_enter Try.func7, Try.ntmps7
    go_wp2_with (go_at_call 17; refine (zzb17_yes _ _ _ _ _ _ _ _ _ _ h).mono ?_; rintro e w' ⟨rfl, rfl⟩)
    go_ret
    exact ⟨rfl, rfl⟩
  · clear g
    go_enter Try.func7, Try.ntmps7
    go_wp2_with (go_at_call 17; refine (zzb17_yes _ _ _ _ _ _ _ _ _ _ h).mono ?_; rintro e w' ⟨rfl, rfl⟩)
    go_ret
    exact ⟨rfl, rfl⟩
theorem law7_g3 (h : n0 + n2 ≤ 1048576) (g0 : n0 ≤ 524288) (g2 : n2 ≤ 524288) (g : ¬ Fits n2 b s p) :
    Calls Try.prog 7 #[.slice a0 n0 c0, .bool b, .slice a2 n2 c2, .int .i64 s, .int .i64 p] w fun e w' => e = .returned (.bool true) ∧ w' = w := by
  have G : Hid (¬ Fits n2 b s p) := g
  clear g
  go_enter Try.func7, Try.ntmps7
  go_wp2_with (first | (go_at_call 17; refine (zzb17_yes _ _ _ _ _ _ _ _ _ _ h).mono ?_; rintro e w' ⟨rfl, rfl⟩) | (go_at_call 18; refine (fits_no _ _ _ _ _ (by omega) G.out).mono ?_; rintro e w' ⟨rfl, rfl⟩))
  go_ret
  exact ⟨rfl, rfl⟩
end

/-- what the last loop reads -/
theorem tail7 {w8 : World} {g gf M : Nat} {T : List Int} {neg : Bool} {s p : Nat} {vm : Value} {B1 B2 B3 : Nat}
    (hT : Own w8 B1 (.slice (some ⟨g, 0, none⟩) M M) (put T (lo neg M s p) (out neg T s p))) (hF : Own w8 B2 (.slice (some ⟨gf, 0, none⟩) M M) T) (hm : Own w8 B3 vm (out neg T s p)) (hf : Fits M neg s p) :
    ∃ (bm om cm l L : Nat) (X : List Int), vm = .slice (some ⟨bm, om, none⟩) L cm ∧ l + L = (if 0 < p ∧ p < M - 1 - s then M else M - 1) ∧ 0 < L ∧
      Hid (∀ k, k < M → w8.cell? ⟨g, k, none⟩ = some (.int .u8 ((put T l X).getD k 0))) ∧ Hid (∀ k, k < M → w8.cell? ⟨gf, k, none⟩ = some (.int .u8 (T.getD k 0))) ∧
      Hid (∀ j, j < L → w8.cell? ⟨bm, om + j, none⟩ = some (.int .u8 (X.getD j 0))) ∧ Hid (T.length = M ∧ X.length = L) := by
  have hL := hF.len
  subst hL
  have hn := hf.nat
  have lh := lo_hi neg T s p hn.2.1 hn.2.2
  have hpos : 0 < (out neg T s p).length := by
    have hd := ds_length T s hn.2.1
    by_cases h1 : T.length - 1 - s ≤ p
    · rw [out_1 neg T s p hn.2.1 h1, List.length_append, hd]; omega
    · by_cases h0 : 0 < p
      · rw [out_2 neg T s p hn.2.1 (by omega) h0, List.length_append, List.length_append, List.length_cons]; omega
      · obtain rfl : p = 0 := by omega
        rw [out_3 neg T s hn.2.1, List.length_append, hd]; omega
  obtain ⟨am, cm, hvm, hRm, _, _⟩ := hm.rd
  obtain ⟨bm, om, ham, hcm⟩ := hRm.2 hpos
  subst ham
  exact ⟨bm, om, cm, lo neg T.length s p, (out neg T s p).length, out neg T s p, hvm, lh, hpos, fun k hk => hT.cell hk, fun k hk => hF.cell hk, hcm, rfl, rfl⟩

theorem cell_in {w8 : World} {g bm om M l L k : Nat} {T X : List Int} (hX : T.length = M ∧ X.length = L) (hT : ∀ k, k < M → w8.cell? ⟨g, k, none⟩ = some (.int .u8 ((put T l X).getD k 0)))
    (hM : ∀ j, j < L → w8.cell? ⟨bm, om + j, none⟩ = some (.int .u8 (X.getD j 0))) (hk : k < M) (h1 : l ≤ k) (h2 : k < l + L) (hfit : l + L ≤ M) :
    ∃ c, w8.cell? ⟨g, k, none⟩ = some (.int .u8 c) ∧ w8.cell? ⟨bm, om + (k - l), none⟩ = some (.int .u8 c) := by
  refine ⟨X.getD (k - l) 0, ?_, hM (k - l) (by omega)⟩
  rw [hT k hk]
  congr 2
  simp only [List.getD]
  rw [put_get (by omega), if_neg (by omega), if_pos (by omega)]
theorem cell_out {w8 : World} {g gf M l L k : Nat} {T X : List Int} (hX : T.length = M ∧ X.length = L) (hT : ∀ k, k < M → w8.cell? ⟨g, k, none⟩ = some (.int .u8 ((put T l X).getD k 0)))
    (hB : ∀ k, k < M → w8.cell? ⟨gf, k, none⟩ = some (.int .u8 (T.getD k 0))) (hk : k < M) (h : k < l ∨ l + L ≤ k) (hfit : l + L ≤ M) :
    ∃ c, w8.cell? ⟨g, k, none⟩ = some (.int .u8 c) ∧ w8.cell? ⟨gf, k, none⟩ = some (.int .u8 c) := by
  refine ⟨T.getD k 0, ?_, hB k hk⟩
  rw [hT k hk]
  congr 2
  simp only [List.getD]
  rw [put_get (by omega)]
  rcases h with h | h
  · rw [if_pos h]
  · rw [if_neg (by omega), if_neg (by omega)]

set_option maxHeartbeats 2000000 in
theorem law7_main (a0 a2 : Option Addr) (n0 c0 M c2 : Nat) (neg : Bool) (s p : Nat) (w : World) (bs T : List Int) (hR0 : Rd w a0 n0 bs) (hN0 : a0 = none → n0 = 0 ∧ c0 = 0) (hR2 : Rd w a2 M T) (hN2 : a2 = none → M = 0 ∧ c2 = 0)
    (h : n0 + M ≤ 1048576) (g0 : n0 ≤ 524288) (g2 : M ≤ 524288) (hF : Fits M neg s p) :
    Calls Try.prog 7 #[.slice a0 n0 c0, .bool neg, .slice a2 M c2, .int .i64 s, .int .i64 p] w fun e w' => e = .returned (.bool true) ∧ Below w.heap.size w w' := by
  have hlen0 := hR0.len
  have hlen2 := hR2.len
  have L0 : Hid (bs.length = n0) := hlen0
  have L2 : Hid (T.length = M) := hlen2
  have HF : Hid (Fits M neg s p) := hF
  obtain ⟨hp, hs, _⟩ := hF.nat
  have hfm : Hid ((out neg T s p).length ≤ 1048576) := out_length neg T s p (by omega) (by omega) (by omega)
  clear hlen0 hlen2 hF
  have d1 : decide ((524288 : Int) < (n0 : Int)) = false := decide_eq_false (by omega)
  have d2 : decide ((524288 : Int) < (M : Int)) = false := decide_eq_false (by omega)
  go_enter Try.func7, Try.ntmps7
  go_wp2_with fail
  refine (zzb17_yes _ _ _ _ _ _ _ _ _ _ h).mono ?_
  rintro e w' ⟨rfl, rfl⟩
  go_wp2_with fail
  refine (fits_yes M neg s p _ (by omega) HF.out).mono ?_
  rintro e w' ⟨rfl, rfl⟩
  go_wp2_with fail
  refine (clone_any a0 n0 c0 bs _ hR0 hN0 (by omega)).mono ?_
  rintro e w1 ⟨b0, rfl, hO1, hB1, hs1⟩
  have hR2' := hR2.of_below hB1
  go_wp2_with fail
  refine (clone_any a2 M c2 T _ hR2' hN2 (by omega)).mono ?_
  rintro e w2 ⟨bt, rfl, hO2, hB2, hs2⟩
  obtain ⟨g, hg, hgb⟩ : ∃ g, bt = some ⟨g, 0, none⟩ ∧ w1.heap.size ≤ g := by
    rcases hs2 with ⟨_, h⟩ | h
    · omega
    · exact h
  rw [hg]
  rw [hg] at hO2
  clear hg hs2
  go_wp2_with fail
  refine (clone_any (some ⟨g, 0, none⟩) M M T _ hO2.rd'.1 (fun h => by cases h) (by omega)).mono ?_
  rintro e w3 ⟨bf, rfl, hO3, hB3, hs3⟩
  obtain ⟨gf, hgf, hgfb⟩ : ∃ g, bf = some ⟨g, 0, none⟩ ∧ w2.heap.size ≤ g := by
    rcases hs3 with ⟨_, h⟩ | h
    · omega
    · exact h
  rw [hgf]
  rw [hgf] at hO3
  clear hgf hs3
  have hRd := ((hO2.of_below hB3).rd'.1.drop (m := s) (by omega)).take (m := M - 1 - s) (by omega)
  rw [Nat.zero_add] at hRd
  go_wp2_with fail
  refine (clone_any (some ⟨g, s, none⟩) (M - 1 - s) (M - s) (mid T s (M - 1)) _ hRd (fun h => by cases h) (by omega)).mono ?_
  rintro e w4 ⟨bd, rfl, hO4, hB4, hs4⟩
  go_wp2_with fail
  refine (model_any neg bd (M - 1 - s) (mid T s (M - 1)) ((M : Int) - 1 - s - 1 - p) p _ hO4.rd'.1 (hs4.imp id fun ⟨g, e, _⟩ => ⟨g, e⟩) (by omega) (by omega) (by omega) (by omega) (by omega)).mono ?_
  rintro e w5 ⟨vm, rfl, hO5, hB5⟩
  rw [← out_eq neg T s p M L2.out HF.out.nat.2.1] at hO5
  have hO15 := (((hO1.of_below hB2).of_below hB3).of_below hB4).of_below hB5
  go_wp2_with fail
  refine (clone_any b0 n0 n0 bs _ hO15.rd'.1 hO15.rd'.2 (by omega)).mono ?_
  rintro e w6 ⟨bc, rfl, hO6, hB6, hs6⟩
  have hS6 : St w5.heap.size w6 (.slice bc n0 n0) bs none 0 [] w6 (.slice bc n0 n0) [] := ⟨by rw [List.append_nil]; exact hO6, Ap.refl _ _, ⟨⟨rfl, fun h => absurd h (by omega)⟩, fun h => absurd h (by omega)⟩, hB6.size⟩
  go_wp2_with (at_builtin; refine wp_own rfl (.tmp 70) (.tmp 71) rfl _ _ rfl rfl hS6 (hO5.of_below hB6) (by rw [List.append_nil, L0.out]; omega) (Nat.le_trans hfm.out (by decide)) ?_; intro v7 w7 h7)
  have z1 := hB1.size
  have z2 := hB2.size
  have z3 := hB3.size
  have z4 := hB4.size
  have z5 := hB5.size
  have z6 := hB6.size
  have z7 := h7.ap.1.size
  have hgl := (hO2.lt g rfl).2
  have hgfl := (hO3.lt gf rfl).2
  have hO17 := h7.ap.own (hO15.of_below hB6) (apart_of hO1 hO6 (by omega))
  have hT7 := h7.ap.own ((((hO2.of_below hB3).of_below hB4).of_below hB5).of_below hB6) (apart_of hO2 hO6 (by omega))
  have hF7 := h7.ap.own (((hO3.of_below hB4).of_below hB5).of_below hB6) (apart_of hO3 hO6 (by omega))
  have hm7 := h7.ap.own (hO5.of_below hB6) (apart_of hO5 hO6 (by omega))
  have hb7 := h7.ap.below (((((hB1.trans (hB2.mono z1)).trans (hB3.mono (by omega))).trans (hB4.mono (by omega))).trans (hB5.mono (by omega))).trans (hB6.mono (by omega))) (by omega) (fun k hk => by have := (hO6.lt k hk).1; omega)
  have HN : Hid (Value.ownBlock (.slice b0 n0 n0) ≠ some g) := fun e => by have := (hO1.lt g e).2; omega
  have hwant := h7.own
  rw [List.nil_append] at hwant
  refine (zzpoint_any (.slice b0 n0 n0) _ _ bs neg g M T s p _ hO17 (by omega) hT7 HN.out (by rw [L0.out]; omega) (by omega) hs hp HF.out.nat.2.2).mono ?_
  rintro e w8 ⟨v8, rfl, hO8, hT8, hX⟩
  have hwant8 := hX.keeps hwant (apart_of' hO1 hwant (by omega)) (fun e => by have := (hwant.lt g e).1; omega)
  have hF8 := hX.keeps hF7 (apart_of' hO1 hO3 (by omega)) (fun e => by simp [Value.ownBlock] at e; omega)
  have hm8 := hX.keeps hm7 (apart_of' hO1 hO5 (by omega)) (fun e => by have := (hO5.lt g e).1; omega)
  have hb8 := hX.below hb7 (by omega) (fun k hk => (hO1.lt k hk).1) (by omega)
  clear z1 z2 z3 z4 z5 z6 z7 hgl hgfl hO17 hT7 hF7 hm7 hb7 hwant hO15 hO6 hB6 h7 hS6 hO5 hB5 hO4 hB4 hO3 hB3 hO2 hB2 hO1 hB1 hRd hR2'
  go_wp2_with fail
  refine (equal_own hO8 hwant8 ?_).mono ?_
  · rw [List.length_append, L0.out]; have := hfm.out; omega
  · rintro e w9 ⟨rfl, q, rfl⟩
    obtain ⟨bm, om, cm, l, L, X, hvm, hlL, hLp, HT, HB, HM, HX⟩ := tail7 hT8 hF8 hm8 HF.out
    rw [hvm]
    clear hvm hT8 hF8 hm8 hO8 hwant8 hX hs1 hs4 hs6 hR0 hR2
    by_cases hA : 0 < p ∧ p < M - 1 - s
    · rw [if_pos hA] at hlL
      obtain ⟨hA1, hA2⟩ := hA
      have hlo : (M : Int) - (L : Int) = (l : Int) := by omega
      have d3 : decide ((p : Int) < (M : Int) - 1 - (s : Int)) = true := decide_eq_true (by omega)
      have hl1 : l + L ≤ M := by omega
      have hl2 : M ≤ l + L := by omega
      clear hlL
      go_wp2
      go_loopw [20] (fun i wr => ∃ k q : Nat, k ≤ M ∧ i = .int .i64 k ∧ wr = w8.drewN q) (fun i _ => M - (intOf i).toNat)
      case atStart => exact ⟨0, _, Nat.zero_le _, rfl, rfl⟩
      case round =>
        obtain ⟨k, q, hk, rfl, rfl⟩ := hrel
        by_cases hlt : k < M
        · by_cases hin : l ≤ k ∧ k < M
          · obtain ⟨hi1, hi2⟩ := hin
            obtain ⟨c, hc1, hc2⟩ := cell_in HX.out HT.out HM.out hlt hi1 (show k < l + L by omega) (by omega)
            have hwr : IntKind.i64.wrap ((k : Int) - (l : Int)) = (k : Int) - (l : Int) := by rw [IntKind.wrap_i64]; omega
            have hb1 : (0 : Int) ≤ (k : Int) - (l : Int) := by omega
            have hb2 : (k : Int) - (l : Int) < (L : Int) := by omega
            have htn : ((k : Int) - (l : Int)).toNat = k - l := by omega
            go_wp2
            go_quiet (fail)
            go_wp2
            go_roundw
            case rel => exact ⟨k + 1, _, by omega, by go_num, rfl⟩
            case measure => simp [intOf]; omega
          · obtain ⟨c, hc1, hc2⟩ := cell_out HX.out HT.out HB.out hlt (show k < l ∨ l + L ≤ k by omega) (by omega)
            by_cases hi1 : l ≤ k
            · exact absurd ⟨hi1, hlt⟩ hin
            · clear hin
              go_wp2
              go_quiet (fail)
              go_wp2
              go_roundw
              case rel => exact ⟨k + 1, _, by omega, by go_num, rfl⟩
              case measure => simp [intOf]; omega
        · go_wp2
          go_ret
          exact ⟨rfl, below_drewN hb8 _⟩
    · rw [if_neg hA] at hlL
      have hlo : (M : Int) - 1 - (L : Int) = (l : Int) := by omega
      by_cases hA1 : 0 < p
      · have hA2 : ¬ p < M - 1 - s := fun e => hA ⟨hA1, e⟩
        have d3 : decide ((p : Int) < (M : Int) - 1 - (s : Int)) = false := decide_eq_false (by omega)
        clear hA
        have hl1 : l + L ≤ (M - 1) := by omega
        have hl2 : (M - 1) ≤ l + L := by omega
        clear hlL
        go_wp2
        go_loopw [20] (fun i wr => ∃ k q : Nat, k ≤ M ∧ i = .int .i64 k ∧ wr = w8.drewN q) (fun i _ => M - (intOf i).toNat)
        case atStart => exact ⟨0, _, Nat.zero_le _, rfl, rfl⟩
        case round =>
          obtain ⟨k, q, hk, rfl, rfl⟩ := hrel
          by_cases hlt : k < M
          · by_cases hin : l ≤ k ∧ k < (M - 1)
            · obtain ⟨hi1, hi2⟩ := hin
              obtain ⟨c, hc1, hc2⟩ := cell_in HX.out HT.out HM.out hlt hi1 (show k < l + L by omega) (by omega)
              have hwr : IntKind.i64.wrap ((k : Int) - (l : Int)) = (k : Int) - (l : Int) := by rw [IntKind.wrap_i64]; omega
              have hb1 : (0 : Int) ≤ (k : Int) - (l : Int) := by omega
              have hb2 : (k : Int) - (l : Int) < (L : Int) := by omega
              have htn : ((k : Int) - (l : Int)).toNat = k - l := by omega
              go_wp2
              go_quiet (fail)
              go_wp2
              go_roundw
              case rel => exact ⟨k + 1, _, by omega, by go_num, rfl⟩
              case measure => simp [intOf]; omega
            · obtain ⟨c, hc1, hc2⟩ := cell_out HX.out HT.out HB.out hlt (show k < l ∨ l + L ≤ k by omega) (by omega)
              by_cases hi1 : l ≤ k
              · have hi2 : ¬ k < (M - 1) := fun e => hin ⟨hi1, e⟩
                clear hin
                go_wp2
                go_quiet (fail)
                go_wp2
                go_roundw
                case rel => exact ⟨k + 1, _, by omega, by go_num, rfl⟩
                case measure => simp [intOf]; omega
              · clear hin
                go_wp2
                go_quiet (fail)
                go_wp2
                go_roundw
                case rel => exact ⟨k + 1, _, by omega, by go_num, rfl⟩
                case measure => simp [intOf]; omega
          · go_wp2
            go_ret
            exact ⟨rfl, below_drewN hb8 _⟩
      · clear hA
        have hl1 : l + L ≤ (M - 1) := by omega
        have hl2 : (M - 1) ≤ l + L := by omega
        clear hlL
        go_wp2
        go_loopw [20] (fun i wr => ∃ k q : Nat, k ≤ M ∧ i = .int .i64 k ∧ wr = w8.drewN q) (fun i _ => M - (intOf i).toNat)
        case atStart => exact ⟨0, _, Nat.zero_le _, rfl, rfl⟩
        case round =>
          obtain ⟨k, q, hk, rfl, rfl⟩ := hrel
          by_cases hlt : k < M
          · by_cases hin : l ≤ k ∧ k < (M - 1)
            · obtain ⟨hi1, hi2⟩ := hin
              obtain ⟨c, hc1, hc2⟩ := cell_in HX.out HT.out HM.out hlt hi1 (show k < l + L by omega) (by omega)
              have hwr : IntKind.i64.wrap ((k : Int) - (l : Int)) = (k : Int) - (l : Int) := by rw [IntKind.wrap_i64]; omega
              have hb1 : (0 : Int) ≤ (k : Int) - (l : Int) := by omega
              have hb2 : (k : Int) - (l : Int) < (L : Int) := by omega
              have htn : ((k : Int) - (l : Int)).toNat = k - l := by omega
              go_wp2
              go_quiet (fail)
              go_wp2
              go_roundw
              case rel => exact ⟨k + 1, _, by omega, by go_num, rfl⟩
              case measure => simp [intOf]; omega
            · obtain ⟨c, hc1, hc2⟩ := cell_out HX.out HT.out HB.out hlt (show k < l ∨ l + L ≤ k by omega) (by omega)
              by_cases hi1 : l ≤ k
              · have hi2 : ¬ k < (M - 1) := fun e => hin ⟨hi1, e⟩
                clear hin
                go_wp2
                go_quiet (fail)
                go_wp2
                go_roundw
                case rel => exact ⟨k + 1, _, by omega, by go_num, rfl⟩
                case measure => simp [intOf]; omega
              · clear hin
                go_wp2
                go_quiet (fail)
                go_wp2
                go_roundw
                case rel => exact ⟨k + 1, _, by omega, by go_num, rfl⟩
                case measure => simp [intOf]; omega
          · go_wp2
            go_ret
            exact ⟨rfl, below_drewN hb8 _⟩

/-- THE LAW, AT EVERY INPUT -/
theorem law7_any (a0 a2 : Option Addr) (n0 c0 n2 c2 : Nat) (neg : Bool) (s p : Int) (w : World) (bs T : List Int) (hR0 : Rd w a0 n0 bs) (hN0 : a0 = none → n0 = 0 ∧ c0 = 0) (hM0 : n0 ≤ maxLen) (hR2 : Rd w a2 n2 T) (hN2 : a2 = none → n2 = 0 ∧ c2 = 0) (hM2 : n2 ≤ maxLen) :
    Calls Try.prog 7 #[.slice a0 n0 c0, .bool neg, .slice a2 n2 c2, .int .i64 s, .int .i64 p] w fun e w' => e = .returned (.bool true) ∧ Below w.heap.size w w' := by
  have fin : ∀ (e : Ending) (w' : World), (e = .returned (.bool true) ∧ w' = w) → (e = .returned (.bool true) ∧ Below w.heap.size w w') := by
    rintro e w' ⟨rfl, rfl⟩
    exact ⟨rfl, Below.refl _ _⟩
  by_cases h : n0 + n2 ≤ 1048576
  · by_cases g : n0 ≤ 524288 ∧ n2 ≤ 524288
    · by_cases q : Fits n2 neg s p
      · obtain ⟨s, rfl⟩ : ∃ k : Nat, s = (k : Int) := ⟨s.toNat, by have := q.2.2.1; omega⟩
        obtain ⟨p, rfl⟩ : ∃ k : Nat, p = (k : Int) := ⟨p.toNat, by have := q.1; omega⟩
        exact law7_main a0 a2 n0 c0 n2 c2 neg s p w bs T hR0 hN0 hR2 hN2 h g.1 g.2 q
      · exact (law7_g3 a0 a2 n0 c0 n2 c2 neg s p w h g.1 g.2 q).mono fin
    · exact (law7_g2 a0 a2 n0 c0 n2 c2 neg s p w h g).mono fin
  · exact (law7_g1 a0 a2 n0 c0 n2 c2 neg s p w hM0 hM2 h).mono fin
end Go.Proofs.Qxb6602854a.bys

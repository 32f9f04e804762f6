import Derived.Test.Qxb6602854aPointAll
import Derived.Test.Qxb6602854aGuards
namespace Go.Proofs.Qxb6602854a.bys
open Go.RowKit

/-! ### the guards: the law answers true at once -/
section
variable (a0 a2 : Option Addr) (n0 c0 n2 c2 : Nat) (b : Bool) (s p : Int) (w : World)
theorem law8_g1 (h0 : n0 ≤ maxLen) (h2 : n2 ≤ maxLen) (h : ¬ n0 + n2 ≤ 1048576) :
    Calls Try.prog 8 #[.slice a0 n0 c0, .bool b, .slice a2 n2 c2, .int .i64 s, .int .i64 p] w fun e w' => e = .returned (.bool true) ∧ w' = w := by
  go_enter Try.func8, Try.ntmps8
  go_wp2_with (go_at_call 20; refine (zzb20_no _ _ _ _ _ _ _ _ _ _ h0 h2 h).mono ?_; rintro e w' ⟨rfl, rfl⟩)
  go_ret
  exact ⟨rfl, rfl⟩
theorem law8_g2 (h : n0 + n2 ≤ 1048576) (g : ¬ (n0 ≤ 524288 ∧ n2 ≤ 524288)) :
    Calls Try.prog 8 #[.slice a0 n0 c0, .bool b, .slice a2 n2 c2, .int .i64 s, .int .i64 p] w fun e w' => e = .returned (.bool true) ∧ w' = w := by
  by_cases g0 : n0 ≤ 524288
  · have g2 : ¬ n2 ≤ 524288 := by omega
    clear g
    go_enter Try.func8, Try.ntmps8
    go_wp2_with (go_at_call 20; refine (zzb20_yes _ _ _ _ _ _ _ _ _ _ h).mono ?_; rintro e w' ⟨rfl, rfl⟩)
    go_ret
    exact ⟨rfl, rfl⟩
  · clear g
    go_enter Try.func8, Try.ntmps8
    go_wp2_with (go_at_call 20; refine (zzb20_yes _ _ _ _ _ _ _ _ _ _ h).mono ?_; rintro e w' ⟨rfl, rfl⟩)
    go_ret
    exact ⟨rfl, rfl⟩
theorem law8_g3 (h : n0 + n2 ≤ 1048576) (g0 : n0 ≤ 524288) (g2 : n2 ≤ 524288) (g : ¬ Fits n2 b s p) :
    Calls Try.prog 8 #[.slice a0 n0 c0, .bool b, .slice a2 n2 c2, .int .i64 s, .int .i64 p] w fun e w' => e = .returned (.bool true) ∧ w' = w := by
  have G : Hid (¬ Fits n2 b s p) := g
  clear g
  go_enter Try.func8, Try.ntmps8
  go_wp2_with (first | (go_at_call 20; refine (zzb20_yes _ _ _ _ _ _ _ _ _ _ h).mono ?_; rintro e w' ⟨rfl, rfl⟩) | (go_at_call 18; refine (fits_no _ _ _ _ _ (by omega) G.out).mono ?_; rintro e w' ⟨rfl, rfl⟩))
  go_ret
  exact ⟨rfl, rfl⟩
end

theorem Fits.nat {M : Nat} {neg : Bool} {s p : Nat} (h : Fits M neg s p) : p ≤ 65536 ∧ s + 2 ≤ M ∧ (if neg then 1 else 0) + (if M - 1 - s ≤ p then 2 + p - (M - 1 - s) else 0) ≤ s := by
  obtain ⟨h1, h2, h3, h4, h5⟩ := h
  refine ⟨by omega, by omega, ?_⟩
  by_cases h6 : M - 1 - s ≤ p
  · rw [if_pos (show (M : Int) - 1 - s ≤ p by omega)] at h5
    rw [if_pos h6]
    cases neg with
    | false => simp only [Bool.false_eq_true, if_false] at h5 ⊢; omega
    | true => simp only [if_true] at h5 ⊢; omega
  · rw [if_neg (show ¬ (M : Int) - 1 - s ≤ p by omega)] at h5
    rw [if_neg h6]
    cases neg with
    | false => simp only [Bool.false_eq_true, if_false] at h5 ⊢; omega
    | true => simp only [if_true] at h5 ⊢; omega
theorem Fx.below {w w' : World} {v v' : Value} {g B : Nat} {w0 : World} (h : Fx w w' v v' g) (hb : Below B w0 w) (hB : B ≤ w.heap.size) (hv : ∀ k, v.ownBlock = some k → B ≤ k) (hg : B ≤ g) : Below B w0 w' :=
  hb.trans ⟨h.os, h.tape, h.output, h.size, fun k hk => h.block k (by omega) (fun e => by have := hv k e.symm; omega) (by omega)⟩
theorem Fx.keeps {w w' : World} {v v' u : Value} {g B : Nat} {bs : List Int} (h : Fx w w' v v' g) (hu : Own w B u bs) (h1 : u.ownBlock = none ∨ u.ownBlock ≠ v.ownBlock) (h2 : u.ownBlock ≠ some g) : Own w' B u bs := by
  refine ⟨hu.1, ?_⟩
  rcases hu.2 with hn | ⟨g', cap, cur, rfl, hb, hgg, rest⟩
  · exact .inl hn
  · refine .inr ⟨g', cap, cur, rfl, hb, ?_, rest⟩
    rw [h.block g' (Array.getElem?_eq_some_iff.1 hgg).1 (by rcases h1 with h1 | h1; simp [Value.ownBlock] at h1; simpa [Value.ownBlock] using h1) (by simpa [Value.ownBlock] using h2)]
    exact hgg

set_option maxHeartbeats 1000000 in
theorem law8_main (a0 a2 : Option Addr) (n0 c0 M c2 : Nat) (neg : Bool) (s p : Nat) (w : World) (bs T : List Int) (hR0 : Rd w a0 n0 bs) (hN0 : a0 = none → n0 = 0 ∧ c0 = 0) (hR2 : Rd w a2 M T) (hN2 : a2 = none → M = 0 ∧ c2 = 0)
    (h : n0 + M ≤ 1048576) (g0 : n0 ≤ 524288) (g2 : M ≤ 524288) (hF : Fits M neg s p) :
    Calls Try.prog 8 #[.slice a0 n0 c0, .bool neg, .slice a2 M c2, .int .i64 s, .int .i64 p] w fun e w' => e = .returned (.bool true) ∧ Below w.heap.size w w' := by
  have hlen0 := hR0.len
  have hlen2 := hR2.len
  have L0 : Hid (bs.length = n0) := hlen0
  have L2 : Hid (T.length = M) := hlen2
  have HF : Hid (Fits M neg s p) := hF
  obtain ⟨hp, hs, _⟩ := hF.nat
  have hfm : Hid ((out neg T s p).length ≤ 1048576) := out_length neg T s p (by omega) (by omega) (by omega)
  clear hlen0 hlen2 hF
  go_enter Try.func8, Try.ntmps8
  go_wp2_with fail
  refine (zzb20_yes _ _ _ _ _ _ _ _ _ _ h).mono ?_
  rintro e w' ⟨rfl, rfl⟩
  go_wp2_with fail
  refine (fits_yes M neg s p _ (by omega) HF.out).mono ?_
  rintro e w' ⟨rfl, rfl⟩
  go_wp2_with fail
  refine (clone_any a0 n0 c0 bs _ hR0 hN0 (by omega)).mono ?_
  rintro e w1 ⟨b0, rfl, hO1, hB1, hs1⟩
  have hR2' := hR2.of_below hB1
  go_wp2_with fail
  refine (clone_any a2 M c2 T _ hR2' hN2 (by omega)).mono ?_
  rintro e w2 ⟨bt, rfl, hO2, hB2, hs2⟩
  obtain ⟨g, hg, hgb⟩ : ∃ g, bt = some ⟨g, 0, none⟩ ∧ w1.heap.size ≤ g := by
    rcases hs2 with ⟨_, h⟩ | h
    · omega
    · exact h
  rw [hg]
  rw [hg] at hO2
  clear hg hs2
  have hRd := (hO2.rd'.1.drop (m := s) (by omega)).take (m := M - 1 - s) (by omega)
  rw [Nat.zero_add] at hRd
  go_wp2_with fail
  refine (clone_any (some ⟨g, s, none⟩) (M - 1 - s) (M - s) (mid T s (M - 1)) _ hRd (fun h => by cases h) (by omega)).mono ?_
  rintro e w3 ⟨bd, rfl, hO3, hB3, hs3⟩
  have hO1' := ((hO1.of_below hB2).of_below hB3)
  go_wp2_with fail
  refine (clone_any b0 n0 n0 bs _ hO1'.rd'.1 hO1'.rd'.2 (by omega)).mono ?_
  rintro e w4 ⟨bc, rfl, hO4, hB4, hs4⟩
  have hS4 : St w3.heap.size w4 (.slice bc n0 n0) bs bd (M - 1 - s) (mid T s (M - 1)) w4 (.slice bc n0 n0) [] := ⟨by rw [List.append_nil]; exact hO4, Ap.refl _ _, ⟨(hO3.of_below hB4).rd'.1, fun _ => sep_of hO4 hO3 (.inr (Nat.le_refl _))⟩, hB4.size⟩
  go_wp2_with fail
  refine (zzfixed_any (.slice bc n0 n0) _ bs neg bd (M - 1 - s) (mid T s (M - 1)) ((M : Int) - 1 - s - 1 - p) p _ hS4 (hs3.imp id fun ⟨g, e, _⟩ => ⟨g, e⟩) (by rw [L0.out]; omega) (by omega) (by omega) (by omega) (by omega) (by omega) (fun _ => by omega)).mono ?_
  rintro e w5 ⟨v5, rfl, hO5, hA5⟩
  have z1 := hB1.size
  have z2 := hB2.size
  have z3 := hB3.size
  have z4 := hB4.size
  have z5 := hA5.1.size
  have hgl := (hO2.lt g rfl).2
  have hO15 := hA5.own (hO1'.of_below hB4) (apart_of hO1 hO4 (by omega))
  have hT5 := hA5.own ((hO2.of_below hB3).of_below hB4) (apart_of hO2 hO4 (by omega))
  have hb5 := hA5.below (((hB1.trans (hB2.mono z1)).trans (hB3.mono (by omega))).trans (hB4.mono (by omega))) (by omega) (fun k hk => by have := (hO4.lt k hk).1; omega)
  clear z1 z2 z3 z4
  go_wp2_with fail
  refine (clone_any b0 n0 n0 bs _ hO15.rd'.1 hO15.rd'.2 (by omega)).mono ?_
  rintro e w6 ⟨be, rfl, hO6, hB6, hs6⟩
  have hb6 := hb5.trans (hB6.mono hb5.size)
  have hne : Value.ownBlock (.slice be n0 n0) ≠ some g := fun e => by have := (hO6.lt g e).1; have := hB3.size; have := hB4.size; omega
  have HN : Hid (Value.ownBlock (.slice be n0 n0) ≠ some g) := hne
  clear hne
  go_wp2_with fail
  refine (zzpoint_any (.slice be n0 n0) _ _ bs neg g M T s p _ hO6 hB6.size (hT5.of_below hB6) HN.out (by rw [L0.out]; omega) (by omega) hs hp HF.out.nat.2.2).mono ?_
  rintro e w7 ⟨v7, rfl, hO7, hT7, hX⟩
  have hO57 := hX.keeps (hO5.of_below hB6) (apart_of hO5 hO6 (Nat.le_refl _)) (fun e => by have := (hO5.lt g e).1; have := hB3.size; omega)
  rw [out_eq neg T s p M L2.out HF.out.nat.2.1] at hO7 hfm
  go_wp2_with fail
  refine (equal_own hO57 hO7 ?_).mono ?_
  · rw [List.length_append, L0.out]; have := hfm.out; omega
  · rintro e w8 ⟨rfl, q, rfl⟩
    go_wp2
    go_ret
    refine ⟨rfl, below_drewN (hX.below hb6 hb6.size (fun k hk => ?_) (by have := hB1.size; omega)) q⟩
    have := (hO6.lt k hk).1
    have := hb5.size
    omega

/-- THE LAW, AT EVERY INPUT -/
theorem law8_any (a0 a2 : Option Addr) (n0 c0 n2 c2 : Nat) (neg : Bool) (s p : Int) (w : World) (bs T : List Int) (hR0 : Rd w a0 n0 bs) (hN0 : a0 = none → n0 = 0 ∧ c0 = 0) (hM0 : n0 ≤ maxLen) (hR2 : Rd w a2 n2 T) (hN2 : a2 = none → n2 = 0 ∧ c2 = 0) (hM2 : n2 ≤ maxLen) :
    Calls Try.prog 8 #[.slice a0 n0 c0, .bool neg, .slice a2 n2 c2, .int .i64 s, .int .i64 p] w fun e w' => e = .returned (.bool true) ∧ Below w.heap.size w w' := by
  have fin : ∀ (e : Ending) (w' : World), (e = .returned (.bool true) ∧ w' = w) → (e = .returned (.bool true) ∧ Below w.heap.size w w') := by
    rintro e w' ⟨rfl, rfl⟩
    exact ⟨rfl, Below.refl _ _⟩
  by_cases h : n0 + n2 ≤ 1048576
  · by_cases g : n0 ≤ 524288 ∧ n2 ≤ 524288
    · by_cases q : Fits n2 neg s p
      · obtain ⟨s, rfl⟩ : ∃ k : Nat, s = (k : Int) := ⟨s.toNat, by have := q.2.2.1; omega⟩
        obtain ⟨p, rfl⟩ : ∃ k : Nat, p = (k : Int) := ⟨p.toNat, by have := q.1; omega⟩
        exact law8_main a0 a2 n0 c0 n2 c2 neg s p w bs T hR0 hN0 hR2 hN2 h g.1 g.2 q
      · exact (law8_g3 a0 a2 n0 c0 n2 c2 neg s p w h g.1 g.2 q).mono fin
    · exact (law8_g2 a0 a2 n0 c0 n2 c2 neg s p w h g).mono fin
  · exact (law8_g1 a0 a2 n0 c0 n2 c2 neg s p w hM0 hM2 h).mono fin
end Go.Proofs.Qxb6602854a.bys

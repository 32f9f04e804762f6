import Derived.Test.Qxb6602854aModelAll
import Derived.Test.Qxb6602854aGuards
namespace Go.Proofs.Qxb6602854a.bys
open Go.RowKit

/-! ### the guards: the law answers true at once -/
section
variable (a0 a2 : Option Addr) (n0 c0 n2 c2 : Nat) (b : Bool) (k prec : Int) (w : World)
theorem law5_g1 (h0 : n0 ≤ maxLen) (h2 : n2 ≤ maxLen) (h : ¬ n0 + n2 ≤ 1048576) :
    Calls Try.prog 5 #[.slice a0 n0 c0, .bool b, .slice a2 n2 c2, .int .i64 k, .int .i64 prec] w fun e w' => e = .returned (.bool true) ∧ w' = w := by
  go_enter Try.func5, Try.ntmps5
  go_wp2_with (go_at_call 11; refine (zzb11_no _ _ _ _ _ _ _ _ _ _ h0 h2 h).mono ?_; rintro e w' ⟨rfl, rfl⟩)
  go_ret
  exact ⟨rfl, rfl⟩
theorem law5_g2 (h : n0 + n2 ≤ 1048576) (g : ¬ (n0 ≤ 524288 ∧ n2 ≤ 524288)) :
    Calls Try.prog 5 #[.slice a0 n0 c0, .bool b, .slice a2 n2 c2, .int .i64 k, .int .i64 prec] w fun e w' => e = .returned (.bool true) ∧ w' = w := by
  by_cases g0 : n0 ≤ 524288
  · have g2 : ¬ n2 ≤ 524288 := by omega
    clear g
    go_enter Try.func5, Try.ntmps5
    go_wp2_with (go_at_call 11; refine (zzb11_yes _ _ _ _ _ _ _ _ _ _ h).mono ?_; rintro e w' ⟨rfl, rfl⟩)
    go_ret
    exact ⟨rfl, rfl⟩
  · clear g
    go_enter Try.func5, Try.ntmps5
    go_wp2_with (go_at_call 11; refine (zzb11_yes _ _ _ _ _ _ _ _ _ _ h).mono ?_; rintro e w' ⟨rfl, rfl⟩)
    go_ret
    exact ⟨rfl, rfl⟩
theorem law5_g3 (h : n0 + n2 ≤ 1048576) (g0 : n0 ≤ 524288) (g2 : n2 ≤ 524288) (g : ¬ (-65536 ≤ k ∧ k ≤ 65536 ∧ -65536 ≤ prec ∧ prec ≤ 65536)) :
    Calls Try.prog 5 #[.slice a0 n0 c0, .bool b, .slice a2 n2 c2, .int .i64 k, .int .i64 prec] w fun e w' => e = .returned (.bool true) ∧ w' = w := by
  rcases (show k < -65536 ∨ (¬ k < -65536 ∧ 65536 < k) ∨ (¬ k < -65536 ∧ ¬ 65536 < k ∧ prec < -65536) ∨ (¬ k < -65536 ∧ ¬ 65536 < k ∧ ¬ prec < -65536 ∧ 65536 < prec) by omega) with q1 | ⟨q1, q2⟩ | ⟨q1, q2, q3⟩ | ⟨q1, q2, q3, q4⟩
  all_goals
    clear g
    go_enter Try.func5, Try.ntmps5
    go_wp2_with (go_at_call 11; refine (zzb11_yes _ _ _ _ _ _ _ _ _ _ h).mono ?_; rintro e w' ⟨rfl, rfl⟩)
    go_ret
    exact ⟨rfl, rfl⟩
theorem law5_g4 (h : n0 + n2 ≤ 1048576) (g0 : n0 ≤ 524288) (g2 : n2 ≤ 524288) (q1 : -65536 ≤ k) (q2 : k ≤ 65536) (q3 : -65536 ≤ prec) (q4 : prec ≤ 65536) (hp : 0 < prec) (hd : k - n2 + 1 < -prec) :
    Calls Try.prog 5 #[.slice a0 n0 c0, .bool b, .slice a2 n2 c2, .int .i64 k, .int .i64 prec] w fun e w' => e = .returned (.bool true) ∧ w' = w := by
  go_enter Try.func5, Try.ntmps5
  go_wp2_with (go_at_call 11; refine (zzb11_yes _ _ _ _ _ _ _ _ _ _ h).mono ?_; rintro e w' ⟨rfl, rfl⟩)
  go_ret
  exact ⟨rfl, rfl⟩
end

/-- the memory ahead of appendFixed -/
theorem mem5 {w w1 w2 w3 w4 w5 : World} {b0 b2 b3 : Option Addr} {n0 n2 : Nat} {bs ds es : List Int} {v5 : Value}
    (hO1 : Own w1 w.heap.size (.slice b0 n0 n0) bs) (hB1 : Below w.heap.size w w1) (hO2 : Own w2 w1.heap.size (.slice b2 n2 n2) ds) (hB2 : Below w1.heap.size w1 w2)
    (hO3 : Own w3 w2.heap.size (.slice b3 n0 n0) bs) (hB3 : Below w2.heap.size w2 w3) (hB4 : Below w3.heap.size w3 w4)
    (h5 : St w2.heap.size w4 (.slice b3 n0 n0) bs b2 n2 ds w5 v5 es) :
    St w.heap.size w5 (.slice b0 n0 n0) bs b2 n2 ds w5 (.slice b0 n0 n0) [] ∧ Below w.heap.size w w5 := by
  have z1 := hB1.size
  have z2 := hB2.size
  have z3 := hB3.size
  have z4 := hB4.size
  have hb4 : Below w.heap.size w w4 := ((hB1.trans (hB2.mono z1)).trans (hB3.mono (by omega))).trans (hB4.mono (by omega))
  have hO3' := (hO3.of_below hB4)
  have hb5 : Below w.heap.size w w5 := h5.ap.below hb4 (by omega) (fun k hk => by have := (hO3'.lt k hk).1; omega)
  have hO1' : Own w5 w.heap.size (.slice b0 n0 n0) bs := h5.ap.own (((hO1.of_below hB2).of_below hB3).of_below hB4) (apart_of hO1 hO3 z2)
  refine ⟨⟨by rw [List.append_nil]; exact hO1', Ap.refl _ _, ⟨h5.rd.1, fun _ => sep_of hO1 hO2 (.inl (Nat.le_refl _))⟩, hb5.size⟩, hb5⟩

set_option maxHeartbeats 1000000 in
theorem law5_main (a0 a2 : Option Addr) (n0 c0 n2 c2 : Nat) (neg : Bool) (k prec : Int) (w : World) (bs ds : List Int) (hR0 : Rd w a0 n0 bs) (hN0 : a0 = none → n0 = 0 ∧ c0 = 0) (hR2 : Rd w a2 n2 ds) (hN2 : a2 = none → n2 = 0 ∧ c2 = 0)
    (h : n0 + n2 ≤ 1048576) (g0 : n0 ≤ 524288) (g2 : n2 ≤ 524288) (q1 : -65536 ≤ k) (q2 : k ≤ 65536) (q3 : -65536 ≤ prec) (q4 : prec ≤ 65536) (hd : 0 < prec → -prec ≤ k - n2 + 1) :
    Calls Try.prog 5 #[.slice a0 n0 c0, .bool neg, .slice a2 n2 c2, .int .i64 k, .int .i64 prec] w fun e w' => e = .returned (.bool true) ∧ Below w.heap.size w w' := by
  have hlen0 := hR0.len
  have hlen2 := hR2.len
  have L0 : Hid (bs.length = n0) := hlen0
  have L2 : Hid (ds.length = n2) := hlen2
  have hfm : Hid ((fm neg ds k prec).length ≤ 262144) := fm_length neg ds k prec (by omega) (by omega)
  clear hlen0 hlen2
  have HD : Hid (0 < prec → -prec ≤ k - n2 + 1) := hd
  rcases (show prec ≤ 0 ∨ (0 < prec ∧ -prec ≤ k - n2 + 1) by by_cases hp : 0 < prec; exact .inr ⟨hp, hd hp⟩; exact .inl (by omega)) with hp | ⟨hp, hp'⟩
  all_goals
    clear hd
    go_enter Try.func5, Try.ntmps5
    go_wp2_with fail
    refine (zzb11_yes _ _ _ _ _ _ _ _ _ _ h).mono ?_
    rintro e w' ⟨rfl, rfl⟩
    go_wp2_with fail
    refine (clone_any a0 n0 c0 bs _ hR0 hN0 (by omega)).mono ?_
    rintro e w1 ⟨b0, rfl, hO1, hB1, hs1⟩
    have hR2' := hR2.of_below hB1
    go_wp2_with fail
    refine (clone_any a2 n2 c2 ds _ hR2' hN2 (by omega)).mono ?_
    rintro e w2 ⟨b2, rfl, hO2, hB2, hs2⟩
    have hO1' := (hO1.of_below hB2).rd'
    go_wp2_with fail
    refine (clone_any b0 n0 n0 bs _ hO1'.1 hO1'.2 (by omega)).mono ?_
    rintro e w3 ⟨b3, rfl, hO3, hB3, hs3⟩
    have hO2' := (hO2.of_below hB3).rd'
    go_wp2_with fail
    refine (model_any neg b2 n2 ds k prec _ hO2'.1 (hs2.imp id fun ⟨g, e, _⟩ => ⟨g, e⟩) (by omega) (by omega) (by omega) (by omega) (by omega)).mono ?_
    rintro e w4 ⟨vm, rfl, hO4, hB4⟩
    have hS4 : St w2.heap.size w4 (.slice b3 n0 n0) bs b2 n2 ds w4 (.slice b3 n0 n0) [] := ⟨by rw [List.append_nil]; exact hO3.of_below hB4, Ap.refl _ _, ⟨((hO2.of_below hB3).of_below hB4).rd'.1, fun _ => sep_of hO3 hO2 (.inr (Nat.le_refl _))⟩, Nat.le_trans hB3.size hB4.size⟩
    go_wp2_with (at_builtin; refine wp_own rfl (.tmp 60) (.tmp 65) rfl _ _ rfl rfl hS4 hO4 (by rw [List.append_nil, L0.out]; omega) (Nat.le_trans hfm.out (by decide)) ?_; intro v5 w5 h5)
    have hM := mem5 hO1 hB1 hO2 hB2 hO3 hB3 hB4 h5
    refine (zzfixed_any (.slice b0 n0 n0) _ bs neg b2 n2 ds k prec _ hM.1 (hs2.imp id fun ⟨g, e, _⟩ => ⟨g, e⟩) (by rw [L0.out]; omega) (by omega) (by omega) (by omega) (by omega) (by omega) HD.out).mono ?_
    rintro e w6 ⟨v6, rfl, hO6, hA6⟩
    have hO5 := h5.own
    rw [List.nil_append] at hO5
    go_wp2_with fail
    refine (equal_own hO6 (hA6.own hO5 (apart_of' hO1 hO5 hB2.size)) ?_).mono ?_
    · rw [List.length_append, L0.out]; have := hfm.out; omega
    · rintro e w7 ⟨rfl, q, rfl⟩
      go_wp2
      go_ret
      exact ⟨rfl, below_drewN (hA6.below_row (hM.1.own) hM.2 hM.2.size) q⟩

/-- THE LAW, AT EVERY INPUT -/
theorem law5_any (a0 a2 : Option Addr) (n0 c0 n2 c2 : Nat) (neg : Bool) (k prec : Int) (w : World) (bs ds : List Int) (hR0 : Rd w a0 n0 bs) (hN0 : a0 = none → n0 = 0 ∧ c0 = 0) (hM0 : n0 ≤ maxLen) (hR2 : Rd w a2 n2 ds) (hN2 : a2 = none → n2 = 0 ∧ c2 = 0) (hM2 : n2 ≤ maxLen) :
    Calls Try.prog 5 #[.slice a0 n0 c0, .bool neg, .slice a2 n2 c2, .int .i64 k, .int .i64 prec] w fun e w' => e = .returned (.bool true) ∧ Below w.heap.size w w' := by
  have fin : ∀ (e : Ending) (w' : World), (e = .returned (.bool true) ∧ w' = w) → (e = .returned (.bool true) ∧ Below w.heap.size w w') := by
    rintro e w' ⟨rfl, rfl⟩
    exact ⟨rfl, Below.refl _ _⟩
  by_cases h : n0 + n2 ≤ 1048576
  · by_cases g : n0 ≤ 524288 ∧ n2 ≤ 524288
    · by_cases q : -65536 ≤ k ∧ k ≤ 65536 ∧ -65536 ≤ prec ∧ prec ≤ 65536
      · by_cases hd : 0 < prec ∧ k - n2 + 1 < -prec
        · exact (law5_g4 a0 a2 n0 c0 n2 c2 neg k prec w h g.1 g.2 q.1 q.2.1 q.2.2.1 q.2.2.2 hd.1 hd.2).mono fin
        · exact law5_main a0 a2 n0 c0 n2 c2 neg k prec w bs ds hR0 hN0 hR2 hN2 h g.1 g.2 q.1 q.2.1 q.2.2.1 q.2.2.2 (fun hp => by omega)
      · exact (law5_g3 a0 a2 n0 c0 n2 c2 neg k prec w h g.1 g.2 q).mono fin
    · exact (law5_g2 a0 a2 n0 c0 n2 c2 neg k prec w h g).mono fin
  · exact (law5_g1 a0 a2 n0 c0 n2 c2 neg k prec w hM0 hM2 h).mono fin
end Go.Proofs.Qxb6602854a.bys

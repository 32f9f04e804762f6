import Derived.Test.Qxb6603657aSmall
namespace Go.Proofs.Qxb6603657a.sr
open Go.RowKit
set_option linter.unusedVariables false
set_option maxHeartbeats 400000 in
/-- zzCovered -/
theorem covered_yes (g n cap : Nat) (C : List (Int × Int)) (F L : Int) (w : World) (hR : Row w g C) (hn : n ≤ C.length) (hm : n ≤ 1024)
    (hc : ∃ k, k < n ∧ (C.getD k (0, 0)).1 ≤ F ∧ L ≤ (C.getD k (0, 0)).2) :
    Calls Try.prog 14 #[.slice (some ⟨g, 0, none⟩) n cap, .int .i64 F, .int .i64 L] w fun e w' => e = .returned (.bool true) ∧ w' = w := by
  obtain ⟨k0, hk0, hF0, hL0⟩ := hc
  have HR : Hid (Row w g C) := hR
  have H0 : Hid ((C.getD k0 (0, 0)).1 ≤ F ∧ L ≤ (C.getD k0 (0, 0)).2) := ⟨hF0, hL0⟩
  clear hR hF0 hL0
  go_enter Try.func14, Try.ntmps14
  go_wp2
  go_loopw [7] (fun i wr => ∃ k : Nat, k ≤ k0 ∧ i = .int .i64 k ∧ wr = w) (fun i _ => n - (intOf i).toNat)
  case atStart => exact ⟨0, Nat.zero_le _, rfl, rfl⟩
  case round =>
    obtain ⟨k, hk, rfl, rfl⟩ := hrel
    have hlt : k < n := by omega
    have g1 := HR.out.c1 (k := k) (by omega)
    have g2 := HR.out.c2 (k := k) (by omega)
    have HX : Hid (k = k0 → (C.getD k (0, 0)).1 ≤ F ∧ L ≤ (C.getD k (0, 0)).2) := fun e => by subst e; exact H0.out
    generalize (C.getD k (0, 0)).1 = f at g1 HX
    generalize (C.getD k (0, 0)).2 = l at g2 HX
    by_cases t1 : f ≤ F
    · by_cases t2 : L ≤ l
      · have hd1 : decide (f ≤ F) = true := decide_eq_true t1
        have hd2 : decide (L ≤ l) = true := decide_eq_true t2
        go_wp2
        go_ret
        exact ⟨rfl, rfl⟩
      · have hd1 : decide (f ≤ F) = true := decide_eq_true t1
        have hd2 : decide (L ≤ l) = false := decide_eq_false t2
        have hne : k < k0 := by
          rcases Nat.lt_or_ge k k0 with h | h
          · exact h
          · exact absurd (HX.out (by omega)).2 t2
        go_wp2
        go_roundw
        case rel => exact ⟨k + 1, by omega, by go_num, by first | trivial | rfl⟩
        case measure => simp [intOf]; omega
    · have hd1 : decide (f ≤ F) = false := decide_eq_false t1
      have hne : k < k0 := by
        rcases Nat.lt_or_ge k k0 with h | h
        · exact h
        · exact absurd (HX.out (by omega)).1 t1
      go_wp2
      go_roundw
      case rel => exact ⟨k + 1, by omega, by go_num, by first | trivial | rfl⟩
      case measure => simp [intOf]; omega
set_option maxHeartbeats 400000 in
/-- zzSameRanges -/
theorem same_yes (g1 g2 n cap1 cap2 : Nat) (C D : List (Int × Int)) (w : World) (hR : Row w g1 C) (hS : Row w g2 D) (hn : n ≤ C.length) (hn2 : n ≤ D.length) (hm : n ≤ 1024) (he : ∀ k, k < n → C.getD k (0, 0) = D.getD k (0, 0)) :
    Calls Try.prog 15 #[.slice (some ⟨g1, 0, none⟩) n cap1, .slice (some ⟨g2, 0, none⟩) n cap2] w fun e w' => e = .returned (.bool true) ∧ ∃ q, w' = w.drewN q := by
  have HR : Hid (Row w g1 C) := hR
  have HS : Hid (Row w g2 D) := hS
  have HE : Hid (∀ k, k < n → C.getD k (0, 0) = D.getD k (0, 0)) := he
  clear hR hS he
  go_enter Try.func15, Try.ntmps15
  go_wp2
  go_loopw [5] (fun i wr => ∃ k q : Nat, k ≤ n ∧ i = .int .i64 k ∧ wr = w.drewN q) (fun i _ => n - (intOf i).toNat)
  case atStart => exact ⟨0, 0, Nat.zero_le _, rfl, rfl⟩
  case round =>
    obtain ⟨k, q, hk, rfl, rfl⟩ := hrel
    by_cases hlt : k < n
    · have g3 := HR.out.c1 (k := k) (by omega)
      have g4 := HR.out.c2 (k := k) (by omega)
      have g5 := HS.out.c1 (k := k) (by omega)
      have g6 := HS.out.c2 (k := k) (by omega)
      rw [← HE.out k hlt] at g5 g6
      generalize (C.getD k (0, 0)).1 = f at g3 g5
      generalize (C.getD k (0, 0)).2 = l at g4 g6
      go_wp2
      go_quiet (fail)
      go_wp2
      go_roundw
      case rel => exact ⟨k + 1, _, by omega, by go_num, rfl⟩
      case measure => simp [intOf]; omega
    · go_wp2
      go_ret
      exact ⟨rfl, q, rfl⟩
set_option maxHeartbeats 400000 in
/-- zzValidResult -/
theorem result_yes (g n cap : Nat) (C : List (Int × Int)) (w : World) (hR : Row w g C) (hn : n ≤ C.length) (hm : n ≤ 1024)
    (hv : ∀ k, k < n → -9223372036854775808 < (C.getD k (0, 0)).1 ∧ (C.getD k (0, 0)).1 ≤ (C.getD k (0, 0)).2 ∧ (C.getD k (0, 0)).2 ≤ 9223372036854775807)
    (hg : ∀ k, 0 < k → k < n → (C.getD (k - 1) (0, 0)).2 < (C.getD k (0, 0)).1 - 1) :
    Calls Try.prog 13 #[.slice (some ⟨g, 0, none⟩) n cap] w fun e w' => e = .returned (.bool true) ∧ ∃ q, w' = w.drewN q := by
  have HR : Hid (Row w g C) := hR
  have HV : Hid (∀ k, k < n → -9223372036854775808 < (C.getD k (0, 0)).1 ∧ (C.getD k (0, 0)).1 ≤ (C.getD k (0, 0)).2 ∧ (C.getD k (0, 0)).2 ≤ 9223372036854775807) := hv
  have HG : Hid (∀ k, 0 < k → k < n → (C.getD (k - 1) (0, 0)).2 < (C.getD k (0, 0)).1 - 1) := hg
  clear hR hv hg
  go_enter Try.func13, Try.ntmps13
  go_wp2
  go_loopw [3] (fun i wr => ∃ k q : Nat, k ≤ n ∧ i = .int .i64 k ∧ wr = w.drewN q) (fun i _ => n - (intOf i).toNat)
  case atStart => exact ⟨0, 0, Nat.zero_le _, rfl, rfl⟩
  case round =>
    obtain ⟨k, q, hk, rfl, rfl⟩ := hrel
    by_cases hlt : k < n
    · have g3 := HR.out.c1 (k := k) (by omega)
      have g4 := HR.out.c2 (k := k) (by omega)
      have v := HV.out k hlt
      have HGK : Hid (0 < k → (C.getD (k - 1) (0, 0)).2 < (C.getD k (0, 0)).1 - 1) := fun h => HG.out k h hlt
      generalize (C.getD k (0, 0)).1 = f at g3 v HGK
      generalize (C.getD k (0, 0)).2 = l at g4 v
      have hd0 : decide (f = -9223372036854775808) = false := decide_eq_false (by omega)
      have hd0b : (f == -9223372036854775808) = false := by simp; omega
      have hd1 : decide (l < f) = false := decide_eq_false (by omega)
      go_wp2
      go_quiet (fail)
      go_wp2
      clear g4 hd0 hd0b hd1
      by_cases hk0 : k = 0
      · subst hk0
        go_quiet (fail)
        go_wp2
        go_roundw
        case rel => exact ⟨0 + 1, _, by omega, by go_num, rfl⟩
        case measure => simp [intOf]; omega
      · have hkp : 0 < k := by omega
        have g5 := HR.out.c2 (k := k - 1) (by omega)
        have v2 := HGK.out hkp
        generalize (C.getD (k - 1) (0, 0)).2 = p at g5 v2
        have hw1 : IntKind.i64.wrap (f - 1) = f - 1 := by rw [IntKind.wrap_i64]; omega
        have hw2 : IntKind.i64.wrap ((k : Int) - 1) = (k : Int) - 1 := by rw [IntKind.wrap_i64]; omega
        have hd3 : decide (f - 1 ≤ p) = false := decide_eq_false (by omega)
        have hi0 : (0 : Int) ≤ (k : Int) - 1 := by omega
        have hi1 : (k : Int) - 1 < n := by omega
        have hi2 : ((k : Int) - 1).toNat = k - 1 := by omega
        go_quiet (fail)
        go_wp2
        go_roundw
        case rel => exact ⟨k + 1, _, by omega, by go_num, rfl⟩
        case measure => simp [intOf]; omega
    · go_wp2
      go_ret
      exact ⟨rfl, q, rfl⟩
end Go.Proofs.Qxb6603657a.sr

import Derived.Test.Qxb6603770aRows
import Derived.WalkKit
namespace Go.Proofs.Qxb6603770a.leading
open Go.RowKit

/-- a byte is an ASCII digit: as a Bool that the walk leaves standing -/
def digB (c : Int) : Bool := decide (48 ≤ c ∧ c ≤ 57)
theorem digB_yes {c : Int} (h1 : 48 ≤ c) (h2 : c ≤ 57) : digB c = true := by simp [digB, h1, h2]
theorem digB_no1 {c : Int} (h1 : c < 48) : digB c = false := by simp [digB]; omega
theorem digB_no2 {c : Int} (h2 : 57 < c) : digB c = false := by simp [digB]; omega
theorem ret_bool {a b : Bool} (h : a = b) : Ending.returned (.bool a) = .returned (.bool b) := by rw [h]

theorem isDigit_any (c : Int) (w : World) : Calls Try.prog 8 #[.int .u8 c] w fun e w' => e = .returned (.bool (digB c)) ∧ w' = w := by
  by_cases h1 : 48 ≤ c
  · by_cases h2 : c ≤ 57
    · go_enter Try.func8, Try.ntmps8
      go_wp2
      go_ret
      exact ⟨ret_bool (digB_yes h1 h2).symm, rfl⟩
    · go_enter Try.func8, Try.ntmps8
      go_wp2
      go_ret
      exact ⟨ret_bool (digB_no2 h2).symm, rfl⟩
  · go_enter Try.func8, Try.ntmps8
    go_wp2
    go_ret
    exact ⟨ret_bool (digB_no1 h1).symm, rfl⟩

theorem zzIsDigit_any (c : Int) (w : World) : Calls Try.prog 6 #[.int .u8 c] w fun e w' => e = .returned (.bool (digB c)) ∧ w' = w := by
  by_cases h1 : 48 ≤ c
  · by_cases h2 : c ≤ 57
    · go_enter Try.func6, Try.ntmps6
      go_wp2
      go_ret
      exact ⟨ret_bool (digB_yes h1 h2).symm, rfl⟩
    · go_enter Try.func6, Try.ntmps6
      go_wp2
      go_ret
      exact ⟨ret_bool (digB_no2 h2).symm, rfl⟩
  · go_enter Try.func6, Try.ntmps6
    go_wp2
    go_ret
    exact ⟨ret_bool (digB_no1 h1).symm, rfl⟩

theorem isDigit_as (c : Int) (b : Bool) (h : digB c = b) (w : World) : Calls Try.prog 8 #[.int .u8 c] w fun e w' => e = .returned (.bool b) ∧ w' = w := h ▸ isDigit_any c w
theorem zzIsDigit_as (c : Int) (b : Bool) (h : digB c = b) (w : World) : Calls Try.prog 6 #[.int .u8 c] w fun e w' => e = .returned (.bool b) ∧ w' = w := h ▸ zzIsDigit_any c w

/-- byte j of s is there and is a digit -/
def D (s : ByteArray) (j : Nat) : Bool := if h : j < s.size then digB (s[j].toNat : Int) else false
theorem D_at {s : ByteArray} {j : Nat} (h : j < s.size) : D s j = digB (s[j].toNat : Int) := by simp [D, h]

/-- what leadingDigits answers -/
def Lead (s : ByteArray) (n : Nat) : Prop := n ≤ s.size ∧ n ≤ 79 ∧ (∀ j, j < n → D s j = true) ∧ (n = s.size ∨ n = 79 ∨ D s n = false)

set_option maxHeartbeats 400000 in
theorem leading_any (s : ByteArray) (w : World) (_hs : s.size ≤ maxLen) :
    Calls Try.prog 7 #[.string s] w fun e w' => ∃ n : Nat, e = .returned (.int .i64 n) ∧ Lead s n ∧ w' = w := by
  unfold maxLen at _hs
  go_enter Try.func7, Try.ntmps7
  go_wp2
  go_loop [3] (fun i => ∃ k : Nat, k ≤ s.size ∧ k ≤ 79 ∧ i = .int .i64 k ∧ Hid (∀ j, j < k → D s j = true)) (fun i => s.size - (intOf i).toNat)
  case atStart => exact ⟨0, Nat.zero_le _, by omega, rfl, fun j hj => absurd hj (by omega)⟩
  case round =>
    obtain ⟨k, hk, hk2, rfl, HD⟩ := hrel
    by_cases h1 : k < s.size
    · by_cases h2 : k ≤ 78
      · by_cases h3 : digB (s[k].toNat : Int) = true
        · have H3 : Hid (digB (s[k].toNat : Int) = true) := h3
          clear h3
          go_wp2_with (go_at_call 8; refine (isDigit_as _ _ H3.out _).mono ?_; rintro e w' ⟨rfl, rfl⟩)
          go_round
          case rel =>
            refine ⟨k + 1, by omega, by omega, by go_num, fun j hj => ?_⟩
            rcases Nat.lt_or_ge j k with h | h
            · exact HD.out j h
            · obtain rfl : j = k := by omega
              rw [D_at h1]; exact H3.out
          case measure => simp [intOf]; omega
        · have H3 : Hid (digB (s[k].toNat : Int) = false) := (Bool.not_eq_true _ ▸ h3 :)
          clear h3
          go_wp2_with (go_at_call 8; refine (isDigit_as _ _ H3.out _).mono ?_; rintro e w' ⟨rfl, rfl⟩)
          go_ret
          exact ⟨k, rfl, ⟨hk, hk2, HD.out, .inr (.inr (by rw [D_at h1]; exact H3.out))⟩, rfl⟩
      · go_wp2
        go_ret
        exact ⟨k, rfl, ⟨hk, hk2, HD.out, .inr (.inl (by omega))⟩, rfl⟩
    · go_wp2
      go_ret
      exact ⟨k, rfl, ⟨hk, hk2, HD.out, .inl (by omega)⟩, rfl⟩

theorem zzleading_any (s : ByteArray) (w : World) (hs : s.size ≤ maxLen) :
    Calls Try.prog 5 #[.string s] w fun e w' => ∃ n : Nat, e = .returned (.int .i64 n) ∧ Lead s n ∧ w' = w := by
  go_enter Try.func5, Try.ntmps5
  go_wp2_with (go_at_call 7; refine (leading_any _ _ hs).mono ?_; rintro e w' ⟨n, rfl, hL, rfl⟩)
  go_ret
  exact ⟨_, rfl, hL, rfl⟩

theorem zzBytes_no (s : ByteArray) (w : World) (hs : s.size ≤ maxLen) (h : ¬ s.size ≤ 1048576) :
    Calls Try.prog 4 #[.string s] w fun e w' => e = .returned (.bool false) ∧ w' = w := by
  unfold maxLen at hs
  go_enter Try.func4, Try.ntmps4
  go_wp2
  go_ret
  exact ⟨rfl, rfl⟩
theorem zzBytes_yes (s : ByteArray) (w : World) (h : s.size ≤ 1048576) :
    Calls Try.prog 4 #[.string s] w fun e w' => e = .returned (.bool true) ∧ w' = w := by
  go_enter Try.func4, Try.ntmps4
  go_wp2
  go_ret
  exact ⟨rfl, rfl⟩

set_option maxHeartbeats 400000 in
theorem law_any (s : ByteArray) (w : World) (hs : s.size ≤ maxLen) :
    Calls Try.prog 3 #[.string s] w fun e w' => e = .returned (.bool true) ∧ w' = w := by
  by_cases hb : s.size ≤ 1048576
  · have hb' : decide ((1048576 : Int) < (s.size : Int)) = false := decide_eq_false (by omega)
    go_enter Try.func3, Try.ntmps3
    go_wp2_with (first | (go_at_call 4; refine (zzBytes_yes _ _ hb).mono ?_; rintro e w' ⟨rfl, rfl⟩) | (go_at_call 5; refine (zzleading_any _ _ hs).mono ?_; rintro e w' ⟨n, rfl, ⟨hL1, hL2, hL3, hL4⟩, rfl⟩; have HL3 : Hid (∀ j, j < n → D s j = true) := hL3; clear hL3; have HL4 : Hid (n = s.size ∨ n = 79 ∨ D s n = false) := hL4; clear hL4; have g1 : decide ((n : Int) < 0) = false := decide_eq_false (by omega); have g2 : decide (s.size < n) = false := decide_eq_false (by omega); have g3 : decide ((79 : Int) < (n : Int)) = false := decide_eq_false (by omega)))
    go_loop [5] (fun i => ∃ k : Nat, k ≤ n ∧ i = .int .i64 k) (fun i => n - (intOf i).toNat)
    case atStart => exact ⟨0, Nat.zero_le _, rfl⟩
    case round =>
      obtain ⟨k, hk, rfl⟩ := hrel
      by_cases hlt : k < n
      · have hks : k < s.size := by omega
        have H3 : Hid (digB (s[k].toNat : Int) = true) := by have := HL3.out k hlt; rw [D_at hks] at this; exact this
        go_wp2_with (go_at_call 6; refine (zzIsDigit_as _ _ H3.out _).mono ?_; rintro e w' ⟨rfl, rfl⟩)
        go_round
        case rel => exact ⟨k + 1, by omega, by go_num⟩
        case measure => simp [intOf]; omega
      · by_cases e1 : n = s.size
        · subst e1
          go_wp2
          go_ret
          exact ⟨rfl, rfl⟩
        · by_cases e2 : n = 79
          · subst e2
            go_wp2
            go_ret
            exact ⟨rfl, rfl⟩
          · have hns : n < s.size := by omega
            have H3 : Hid (digB (s[n].toNat : Int) = false) := by
              rcases HL4.out with h | h | h
              · omega
              · omega
              · rw [D_at hns] at h; exact h
            go_wp2_with (go_at_call 6; refine (zzIsDigit_as _ _ H3.out _).mono ?_; rintro e w' ⟨rfl, rfl⟩)
            go_ret
            exact ⟨rfl, rfl⟩
  · go_enter Try.func3, Try.ntmps3
    go_wp2_with (go_at_call 4; refine (zzBytes_no _ _ hs hb).mono ?_; rintro e w' ⟨rfl, rfl⟩)
    go_ret
    exact ⟨rfl, rfl⟩
end Go.Proofs.Qxb6603770a.leading

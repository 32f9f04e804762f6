import Derived.Test.Qxb6602854aRows
import Derived.WalkKit
import Derived.Deep.RegionWith
import Derived.Test.Qxb6602854aPlain
namespace Go.Proofs.Qxb6602854a.dig
open Go.RowKit
theorem pairs (x : Int) (w : World) :
    Calls Try.prog 24 #[.int .u64 x] w fun e w' => e = .returned (.int .u64 (pairsZ x)) ∧ w' = w := by
  go_enter Try.func24, Try.ntmps24
  go_wp2
  go_ret
  exact ⟨rfl, rfl⟩
theorem d4 (x : Int) (w : World) :
    Calls Try.prog 21 #[.int .u64 x] w fun e w' => e = .returned (.int .u64 (d4Z x)) ∧ w' = w := by
  go_enter Try.func21, Try.ntmps21
  go_wp2_with (go_at_call 24; refine (pairs _ _).mono ?_; rintro e w' ⟨rfl, rfl⟩)
  go_ret
  exact ⟨rfl, rfl⟩
theorem zzd4 (x : Int) (w : World) :
    Calls Try.prog 9 #[.int .u64 x] w fun e w' => e = .returned (.int .u64 (d4Z x)) ∧ w' = w := by
  go_enter Try.func9, Try.ntmps9
  go_wp2_with (go_at_call 21; refine (d4 _ _).mono ?_; rintro e w' ⟨rfl, rfl⟩)
  go_ret
  exact ⟨rfl, rfl⟩
theorem lane (v : Int) (w : World) (h0 : 0 ≤ v) (h1 : v < 10000) :
    Calls Try.prog 10 #[.int .u64 v] w fun e w' => e = .returned (.int .u64 (laneZ v)) ∧ w' = w := by
  go_enter Try.func10, Try.ntmps10
  go_wp2
  go_ret
  exact ⟨rfl, rfl⟩
theorem laneN_at (v : Nat) (w : World) (h : v < 10000) :
    Calls Try.prog 10 #[.int .u64 v] w fun e w' => e = .returned (.int .u64 (laneN v : Int)) ∧ w' = w := by
  rw [← laneZ_eq v h]
  exact lane v w (by omega) (by omega)

/-- a word's two lanes -/
theorem lanes (x : Int) (h0 : 0 ≤ x) (h1 : x < 18446744073709551616) :
    ∃ a b : Nat, x = ((a + b * 4294967296 : Nat) : Int) ∧ a < 4294967296 ∧ b < 4294967296 ∧ bits .and .u64 x 4294967295 = (a : Int) ∧ x / 4294967296 = (b : Int) := by
  obtain ⟨n, rfl⟩ : ∃ n : Nat, x = (n : Int) := ⟨x.toNat, by omega⟩
  refine ⟨n % 4294967296, n / 4294967296, by omega, by omega, by omega, ?_, by omega⟩
  rw [← and_ff]
  exact u64_and_nat n 4294967295 (by omega) (by omega)

theorem matches_eq (a b : Nat) (ha : a < 10000) (hb : b < 10000) :
    (((laneN a + laneN b * 4294967296 : Nat) : Int) == bits .or .u64 (laneN a : Int) ((laneN b : Int) * 4294967296)) = true := by
  have h1 := laneN_lt a ha
  have h2 := laneN_lt b hb
  have e : (laneN b : Int) * 4294967296 = ((laneN b * 2 ^ 32 : Nat) : Int) := by omega
  have := or_add 32 (laneN a) (laneN b) (by omega) (by omega) (by omega)
  rw [e, this]
  simp

set_option maxRecDepth 100000 in
set_option maxHeartbeats 400000 in
theorem law3 (x : Int) (a b : Nat) (w : World) (hlo : bits .and .u64 x 4294967295 = (a : Int)) (hhi : x / 4294967296 = (b : Int)) (ha : a < 10000) (hb : b < 10000)
    (hd : d4Z x = ((laneN a + laneN b * 4294967296 : Nat) : Int)) :
    Calls Try.prog 3 #[.int .u64 x] w fun e w' => e = .returned (.bool true) ∧ w' = w := by
  have h1 := laneN_lt a ha
  have h2 := laneN_lt b hb
  have hm : (d4Z x == bits .or .u64 (laneN a : Int) ((laneN b : Int) * 4294967296)) = true := by rw [hd]; exact matches_eq a b ha hb
  clear hd
  go_enter Try.func3, Try.ntmps3
  go_wp2_with (first | (go_at_call 9; refine (zzd4 _ _).mono ?_; rintro e w' ⟨rfl, rfl⟩) | (go_at_call_of 10 (Value.int IntKind.u64 (a : Int)); refine (laneN_at a _ ha).mono ?_; rintro e w' ⟨rfl, rfl⟩) | (go_at_call_of 10 (Value.int IntKind.u64 (b : Int)); refine (laneN_at b _ hb).mono ?_; rintro e w' ⟨rfl, rfl⟩))
  go_ret
  exact ⟨rfl, rfl⟩
set_option maxRecDepth 100000 in
theorem law3no (x : Int) (a b : Nat) (w : World) (hlo : bits .and .u64 x 4294967295 = (a : Int)) (hhi : x / 4294967296 = (b : Int)) (h : ¬ a < 10000 ∨ ¬ b < 10000) :
    Calls Try.prog 3 #[.int .u64 x] w fun e w' => e = .returned (.bool true) ∧ w' = w := by
  by_cases ha : a < 10000
  · have hb : ¬ b < 10000 := by omega
    clear h
    go_enter Try.func3, Try.ntmps3
    go_wp2
    go_ret
    exact ⟨rfl, rfl⟩
  · clear h
    go_enter Try.func3, Try.ntmps3
    go_wp2
    go_ret
    exact ⟨rfl, rfl⟩
theorem law3_any (x : Int) (w : World) (h0 : 0 ≤ x) (h1 : x < 18446744073709551616) :
    Calls Try.prog 3 #[.int .u64 x] w fun e w' => e = .returned (.bool true) ∧ w' = w := by
  obtain ⟨a, b, e, ha, hb, hlo, hhi⟩ := lanes x h0 h1
  by_cases h : a < 10000 ∧ b < 10000
  · exact law3 x a b w hlo hhi h.1 h.2 (by rw [e]; exact d4Z_eq a b h.1 h.2)
  · exact law3no x a b w hlo hhi (by omega)
end Go.Proofs.Qxb6602854a.dig

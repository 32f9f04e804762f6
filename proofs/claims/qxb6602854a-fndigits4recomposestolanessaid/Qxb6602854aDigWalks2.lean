import Derived.Test.Qxb6602854aDigWalks
namespace Go.Proofs.Qxb6602854a.dig
open Go.RowKit

theorem and_id (n : Nat) (h : n < 4294967296) : bits .and .u64 (n : Int) 4294967295 = (n : Int) := by
  have := u64_and_nat n 4294967295 (by omega) (by omega)
  rw [and_ff, Nat.mod_eq_of_lt h] at this
  exact this
theorem and_255 (n : Nat) (h : n < 18446744073709551616) : bits .and .u64 (n : Int) 255 = ((n % 256 : Nat) : Int) := by
  have := u64_and_nat n 255 (by omega) (by omega)
  rw [show n &&& 255 = n % 256 from Nat.and_two_pow_sub_one_eq_mod n 8] at this
  exact this

/-- what has been gathered of v's four digits behind k rounds -/
def accN (v : Nat) : Nat → Nat
  | 0 => 0
  | 1 => v / 1000
  | 2 => v / 100
  | 3 => v / 10
  | _ => v
theorem bytes4 (p q r t : Nat) (hp : p < 10) (hq : q < 10) (hr : r < 10) (ht : t < 10) :
    (p + q * 256 + r * 65536 + t * 16777216) % 256 = p ∧ (p + q * 256 + r * 65536 + t * 16777216) / 256 % 256 = q ∧
    (p + q * 256 + r * 65536 + t * 16777216) / 65536 % 256 = r ∧ (p + q * 256 + r * 65536 + t * 16777216) / 16777216 % 256 = t := by omega
theorem byte0 (v : Nat) (h : v < 10000) : bits .and .u64 (laneN v : Int) 255 = ((v / 1000 : Nat) : Int) := by
  have h1 := laneN_lt v h
  rw [and_255 _ (by omega)]; congr 1
  exact (bytes4 (v / 1000) (v / 100 % 10) (v / 10 % 10) (v % 10) (by omega) (by omega) (by omega) (by omega)).1
theorem byte1 (v : Nat) (h : v < 10000) : bits .and .u64 ((laneN v : Int) / 256) 255 = ((v / 100 % 10 : Nat) : Int) := by
  have h1 := laneN_lt v h
  rw [show ((laneN v : Int) / 256) = ((laneN v / 256 : Nat) : Int) by omega, and_255 _ (by omega)]; congr 1
  exact (bytes4 (v / 1000) (v / 100 % 10) (v / 10 % 10) (v % 10) (by omega) (by omega) (by omega) (by omega)).2.1
theorem byte2 (v : Nat) (h : v < 10000) : bits .and .u64 ((laneN v : Int) / 65536) 255 = ((v / 10 % 10 : Nat) : Int) := by
  have h1 := laneN_lt v h
  rw [show ((laneN v : Int) / 65536) = ((laneN v / 65536 : Nat) : Int) by omega, and_255 _ (by omega)]; congr 1
  exact (bytes4 (v / 1000) (v / 100 % 10) (v / 10 % 10) (v % 10) (by omega) (by omega) (by omega) (by omega)).2.2.1
theorem byte3 (v : Nat) (h : v < 10000) : bits .and .u64 ((laneN v : Int) / 16777216) 255 = ((v % 10 : Nat) : Int) := by
  have h1 := laneN_lt v h
  rw [show ((laneN v : Int) / 16777216) = ((laneN v / 16777216 : Nat) : Int) by omega, and_255 _ (by omega)]; congr 1
  exact (bytes4 (v / 1000) (v / 100 % 10) (v / 10 % 10) (v % 10) (by omega) (by omega) (by omega) (by omega)).2.2.2
theorem d4_lo (x : Int) (a b : Nat) (ha : a < 10000) (hb : b < 10000) (hd : d4Z x = ((laneN a + laneN b * 4294967296 : Nat) : Int)) :
    bits .and .u64 (d4Z x) 4294967295 = (laneN a : Int) := by
  have h1 := laneN_lt a ha
  have h2 := laneN_lt b hb
  rw [hd]
  have := u64_and_nat (laneN a + laneN b * 4294967296) 4294967295 (by omega) (by omega)
  rw [and_ff] at this
  rw [show ((laneN a : Nat) : Int) = (((laneN a + laneN b * 4294967296) % 4294967296 : Nat) : Int) by omega]
  exact this
theorem d4_hi (x : Int) (a b : Nat) (ha : a < 10000) (_hb : b < 10000) (hd : d4Z x = ((laneN a + laneN b * 4294967296 : Nat) : Int)) :
    d4Z x / 4294967296 = (laneN b : Int) := by
  have h1 := laneN_lt a ha
  rw [hd]; omega

set_option maxRecDepth 100000 in
set_option maxHeartbeats 1000000 in
theorem law4 (x : Int) (a b : Nat) (w : World) (hlo : bits .and .u64 x 4294967295 = (a : Int)) (hhi : x / 4294967296 = (b : Int)) (ha : a < 10000) (hb : b < 10000)
    (hd : d4Z x = ((laneN a + laneN b * 4294967296 : Nat) : Int)) :
    Calls Try.prog 4 #[.int .u64 x] w fun e w' => e = .returned (.bool true) ∧ w' = w := by
  have h1 := laneN_lt a ha
  have h2 := laneN_lt b hb
  have hy0 := d4_lo x a b ha hb hd
  have hy1 := d4_hi x a b ha hb hd
  have hb2 := and_id b (by omega)
  have hL2 := and_id (laneN b) (by omega)
  have t1 : decide ((10000 : Int) ≤ (a : Int)) = false := decide_eq_false (by omega)
  have t2 : decide ((10000 : Int) ≤ (b : Int)) = false := decide_eq_false (by omega)
  clear hd
  go_enter Try.func4, Try.ntmps4
  go_wp2_with (go_at_call 9; refine (zzd4 _ _).mono ?_; rintro e w' ⟨rfl, rfl⟩)
  go_loop [4] (fun i => ∃ k : Nat, k ≤ 2 ∧ i = .int .u64 k) (fun i => 2 - (intOf i).toNat)
  case atStart => exact ⟨0, by omega, rfl⟩
  case round =>
    obtain ⟨k, hk, rfl⟩ := hrel
    rcases (show k = 0 ∨ k = 1 ∨ k = 2 by omega) with rfl | rfl | rfl
    · go_wp2
      go_loop [7, 8] (fun t j => ∃ m : Nat, m ≤ 4 ∧ j = .int .u64 m ∧ t = .int .u64 (accN a m : Nat)) (fun _ j => 4 - (intOf j).toNat)
      case atStart => exact ⟨0, by omega, rfl, rfl⟩
      case round =>
        obtain ⟨m, hm, rfl, rfl⟩ := hrel
        have hA0 : accN a 0 = 0 := rfl
        have hA1 : accN a 1 = a / 1000 := rfl
        have hA2 : accN a 2 = a / 100 := rfl
        have hA3 : accN a 3 = a / 10 := rfl
        have hA4 : accN a 4 = a := rfl
        have hB0 := byte0 a ha
        have hB1 := byte1 a ha
        have hB2 := byte2 a ha
        have hB3 := byte3 a ha
        rcases (show m = 0 ∨ m = 1 ∨ m = 2 ∨ m = 3 ∨ m = 4 by omega) with rfl | rfl | rfl | rfl | rfl
        · go_wp2
          go_round
          case rel => exact ⟨1, by omega, by go_num, by rw [hA1]; go_num⟩
          case measure => simp [intOf]
        · go_wp2
          go_round
          case rel => exact ⟨2, by omega, by go_num, by rw [hA2]; go_num⟩
          case measure => simp [intOf]
        · go_wp2
          go_round
          case rel => exact ⟨3, by omega, by go_num, by rw [hA3]; go_num⟩
          case measure => simp [intOf]
        · go_wp2
          go_round
          case rel => exact ⟨4, by omega, by go_num, by rw [hA4]; go_num⟩
          case measure => simp [intOf]
        · go_wp2
          go_round
          case rel => exact ⟨1, by omega, by go_num⟩
          case measure => simp [intOf]
    · go_wp2
      go_loop [7, 8] (fun t j => ∃ m : Nat, m ≤ 4 ∧ j = .int .u64 m ∧ t = .int .u64 (accN b m : Nat)) (fun _ j => 4 - (intOf j).toNat)
      case atStart => exact ⟨0, by omega, rfl, rfl⟩
      case round =>
        obtain ⟨m, hm, rfl, rfl⟩ := hrel
        have hA0 : accN b 0 = 0 := rfl
        have hA1 : accN b 1 = b / 1000 := rfl
        have hA2 : accN b 2 = b / 100 := rfl
        have hA3 : accN b 3 = b / 10 := rfl
        have hA4 : accN b 4 = b := rfl
        have hB0 := byte0 b hb
        have hB1 := byte1 b hb
        have hB2 := byte2 b hb
        have hB3 := byte3 b hb
        rcases (show m = 0 ∨ m = 1 ∨ m = 2 ∨ m = 3 ∨ m = 4 by omega) with rfl | rfl | rfl | rfl | rfl
        · go_wp2
          go_round
          case rel => exact ⟨1, by omega, by go_num, by rw [hA1]; go_num⟩
          case measure => simp [intOf]
        · go_wp2
          go_round
          case rel => exact ⟨2, by omega, by go_num, by rw [hA2]; go_num⟩
          case measure => simp [intOf]
        · go_wp2
          go_round
          case rel => exact ⟨3, by omega, by go_num, by rw [hA3]; go_num⟩
          case measure => simp [intOf]
        · go_wp2
          go_round
          case rel => exact ⟨4, by omega, by go_num, by rw [hA4]; go_num⟩
          case measure => simp [intOf]
        · go_wp2
          go_round
          case rel => exact ⟨2, by omega, by go_num⟩
          case measure => simp [intOf]
    · go_wp2
      go_ret
      exact ⟨rfl, rfl⟩

set_option maxRecDepth 100000 in
theorem law4no (x : Int) (a b : Nat) (w : World) (hlo : bits .and .u64 x 4294967295 = (a : Int)) (hhi : x / 4294967296 = (b : Int)) (h : ¬ a < 10000 ∨ ¬ b < 10000) :
    Calls Try.prog 4 #[.int .u64 x] w fun e w' => e = .returned (.bool true) ∧ w' = w := by
  by_cases ha : a < 10000
  · have hb : ¬ b < 10000 := by omega
    clear h
    go_enter Try.func4, Try.ntmps4
    go_wp2
    go_ret
    exact ⟨rfl, rfl⟩
  · clear h
    go_enter Try.func4, Try.ntmps4
    go_wp2
    go_ret
    exact ⟨rfl, rfl⟩
theorem law4_any (x : Int) (w : World) (h0 : 0 ≤ x) (h1 : x < 18446744073709551616) :
    Calls Try.prog 4 #[.int .u64 x] w fun e w' => e = .returned (.bool true) ∧ w' = w := by
  obtain ⟨a, b, e, ha, hb, hlo, hhi⟩ := lanes x h0 h1
  by_cases h : a < 10000 ∧ b < 10000
  · exact law4 x a b w hlo hhi h.1 h.2 (by rw [e]; exact d4Z_eq a b h.1 h.2)
  · exact law4no x a b w hlo hhi (by omega)
end Go.Proofs.Qxb6602854a.dig

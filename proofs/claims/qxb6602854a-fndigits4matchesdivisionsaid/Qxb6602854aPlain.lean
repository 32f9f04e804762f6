import Derived.WalkKit
import Derived.Laws.BitsAllLaws
/- The plain laws of digits4: masks, quotients by a multiplication and a shift, the last step modulo 2^64. No Go in sight but the model's own words on integers. -/
namespace Go.Proofs.Qxb6602854a.dig
open Go.RowKit

theorem and_split (k n c d : Nat) (hd : d < 2 ^ k) : n &&& (c * 2 ^ k + d) = ((n / 2 ^ k) &&& c) * 2 ^ k + (n % 2 ^ k &&& d) := by
  have hlt : (n % 2 ^ k &&& d) < 2 ^ k := Nat.lt_of_le_of_lt Nat.and_le_right hd
  apply Nat.eq_of_testBit_eq
  intro i
  rw [Nat.testBit_and, Nat.mul_comm c, Nat.mul_comm (n / 2 ^ k &&& c)]
  rw [Nat.testBit_two_pow_mul_add _ hd, Nat.testBit_two_pow_mul_add _ hlt]
  by_cases h : i < k
  · simp [h, Nat.testBit_mod_two_pow]
  · simp [h, Nat.testBit_div_two_pow]
    rw [Nat.sub_add_cancel (by omega)]

theorem and_f (n : Nat) : n &&& 15 = n % 16 := Nat.and_two_pow_sub_one_eq_mod n 4
theorem and_7f (n : Nat) : n &&& 127 = n % 128 := Nat.and_two_pow_sub_one_eq_mod n 7
theorem and_ff (n : Nat) : n &&& 4294967295 = n % 4294967296 := Nat.and_two_pow_sub_one_eq_mod n 32

theorem mask4 (n : Nat) : n &&& 4222189076152335 = n % 16 + n / 65536 % 16 * 65536 + n / 4294967296 % 16 * 4294967296 + n / 281474976710656 % 16 * 281474976710656 := by
  have h1 := and_split 16 n 64425492495 15 (by decide)
  have h2 := and_split 16 (n / 65536) 983055 15 (by decide)
  have h3 := and_split 16 (n / 65536 / 65536) 15 15 (by decide)
  simp only [Nat.reducePow, Nat.reduceMul, Nat.reduceAdd, and_f] at h1 h2 h3
  rw [h1, h2, h3]
  omega

theorem mask2 (n : Nat) : n &&& 545460846719 = n % 128 + n / 4294967296 % 128 * 4294967296 := by
  have h1 := and_split 32 n 127 127 (by decide)
  simp only [Nat.reducePow, Nat.reduceMul, Nat.reduceAdd, and_7f] at h1
  rw [h1]
  omega

theorem q10 (a : Nat) (ha : a < 100) : a * 103 / 1024 = a / 10 := by omega
theorem q100 (a : Nat) (ha : a < 10000) : a * 10486 / 1048576 = a / 100 := by omega
/-- one lane of 'pairs': its quotient lies low, what is above it lies at 64 and up -/
theorem lane10 (a M : Nat) (ha : a < 100) : (a + M * 65536) * 103 / 1024 = a / 10 + 64 * (M * 103) := by omega
theorem quo4 (a b c d : Nat) (ha : a < 100) (hb : b < 100) (hc : c < 100) (hd : d < 100) :
   ((a + b * 65536 + c * 4294967296 + d * 281474976710656) * 103 / 1024) &&& 4222189076152335 = a / 10 + b / 10 * 65536 + c / 10 * 4294967296 + d / 10 * 281474976710656 := by
  rw [mask4]
  have e1 : (a + b * 65536 + c * 4294967296 + d * 281474976710656) * 103 / 1024 = a / 10 + 64 * ((b + (c + d * 65536) * 65536) * 103) := by
    have := lane10 a (b + (c + d * 65536) * 65536) ha
    rw [← this]; congr 1; omega
  have k (x y : Nat) (h : x < 10) : (x + 64 * y) % 16 = x := by omega
  have k2 (x y : Nat) (h : x < 10) : (x + 64 * y) / 65536 = y / 1024 := by omega
  have f2 : (a + b * 65536 + c * 4294967296 + d * 281474976710656) * 103 / 1024 / 65536 = b / 10 + 64 * ((c + d * 65536) * 103) := by
    rw [e1, k2 _ _ (by omega), lane10 _ _ hb]
  have f3 : (a + b * 65536 + c * 4294967296 + d * 281474976710656) * 103 / 1024 / 4294967296 = c / 10 + 64 * (d * 103) := by
    have : (a + b * 65536 + c * 4294967296 + d * 281474976710656) * 103 / 1024 / 4294967296 = (a + b * 65536 + c * 4294967296 + d * 281474976710656) * 103 / 1024 / 65536 / 65536 := by
      rw [Nat.div_div_eq_div_mul _ 65536 65536]
    rw [this, f2, k2 _ _ (by omega), lane10 _ _ hc]
  have f4 : (a + b * 65536 + c * 4294967296 + d * 281474976710656) * 103 / 1024 / 281474976710656 = d / 10 := by
    have : (a + b * 65536 + c * 4294967296 + d * 281474976710656) * 103 / 1024 / 281474976710656 = (a + b * 65536 + c * 4294967296 + d * 281474976710656) * 103 / 1024 / 4294967296 / 65536 := by
      rw [Nat.div_div_eq_div_mul _ 4294967296 65536]
    rw [this, f3, k2 _ _ (by omega), q10 _ hd]
  rw [f4, f3, f2, e1, k _ _ (by omega), k _ _ (by omega), k _ _ (by omega)]
  have : d / 10 % 16 = d / 10 := by omega
  rw [this]
theorem quo2 (a b : Nat) (ha : a < 10000) (hb : b < 10000) :
   ((a + b * 4294967296) * 10486 / 1048576) &&& 545460846719 = a / 100 + b / 100 * 4294967296 := by
  rw [mask2]
  have e1 : (a + b * 4294967296) * 10486 / 1048576 = a / 100 + 4096 * (b * 10486) := by
    have h := q100 a ha
    have e : (a + b * 4294967296) * 10486 = a * 10486 + 1048576 * (4096 * (b * 10486)) := by omega
    rw [e, Nat.add_mul_div_left _ _ (by decide), h]
  have e2 (x y : Nat) (h : x < 100) : (x + 4096 * y) % 128 = x := by omega
  have e3 (x y : Nat) (h : x < 100) : (x + 4096 * y) / 4294967296 = y / 1048576 := by omega
  rw [e1, e2 (a / 100) (b * 10486) (by omega), e3 (a / 100) (b * 10486) (by omega), q100 b hb]
  have : b / 100 % 128 = b / 100 := by omega
  rw [this]

/-- the last step of each split, modulo 2^64 -/
theorem step4 (a b c d : Nat) (ha : a < 100) (hb : b < 100) (hc : c < 100) (hd : d < 100) :
   ((a + b * 65536 + c * 4294967296 + d * 281474976710656) * 256 + (a / 10 + b / 10 * 65536 + c / 10 * 4294967296 + d / 10 * 281474976710656) * 18446744073709549057) % 18446744073709551616
     = (a / 10 + a % 10 * 256) + (b / 10 + b % 10 * 256) * 65536 + (c / 10 + c % 10 * 256) * 4294967296 + (d / 10 + d % 10 * 256) * 281474976710656 := by
  omega
theorem step2 (a b : Nat) (ha : a < 10000) (hb : b < 10000) :
   ((a + b * 4294967296) * 65536 + (a / 100 + b / 100 * 4294967296) * 18446744073702998017) % 18446744073709551616
     = a / 100 + a % 100 * 65536 + b / 100 * 4294967296 + b % 100 * 281474976710656 := by
  omega

/-- the four digits of one lane, the first in the lowest byte -/
def laneN (v : Nat) : Nat := v / 1000 + v / 100 % 10 * 256 + v / 10 % 10 * 65536 + v % 10 * 16777216
theorem laneN_pairs (v : Nat) : v / 100 / 10 + v / 100 % 10 * 256 + (v % 100 / 10 + v % 100 % 10 * 256) * 65536 = laneN v := by
  have h1 : v / 100 / 10 = v / 1000 := by rw [Nat.div_div_eq_div_mul]
  have h2 : v % 100 / 10 = v / 10 % 10 := by omega
  have h3 : v % 100 % 10 = v % 10 := by omega
  rw [h1, h2, h3]; unfold laneN; omega
theorem laneN_lt (v : Nat) (h : v < 10000) : laneN v < 268435456 := by unfold laneN; omega

def pairsZ (x : Int) : Int := IntKind.u64.wrap (IntKind.u64.wrap (x * 256) + IntKind.u64.wrap (bits .and .u64 (IntKind.u64.wrap (x * 103) / 1024) 4222189076152335 * 18446744073709549057))
def d4Z (x : Int) : Int := pairsZ (IntKind.u64.wrap (IntKind.u64.wrap (x * 65536) + IntKind.u64.wrap (bits .and .u64 (IntKind.u64.wrap (x * 10486) / 1048576) 545460846719 * 18446744073702998017)))

theorem wrap_id (n : Nat) (h : n < 18446744073709551616) : IntKind.u64.wrap (n : Int) = (n : Int) := by
  rw [IntKind.wrap_u64]; omega
theorem wrap_nat (n : Nat) : IntKind.u64.wrap (n : Int) = ((n % 18446744073709551616 : Nat) : Int) := by
  rw [IntKind.wrap_u64]; omega
theorem wrap_wrap (p q : Int) : IntKind.u64.wrap (IntKind.u64.wrap p + IntKind.u64.wrap q) = IntKind.u64.wrap (p + q) := by
  rw [IntKind.wrap_u64, IntKind.wrap_u64, IntKind.wrap_u64, IntKind.wrap_u64]; omega

theorem pairsZ_eq (a b c d : Nat) (ha : a < 100) (hb : b < 100) (hc : c < 100) (hd : d < 100) :
    pairsZ ((a + b * 65536 + c * 4294967296 + d * 281474976710656 : Nat) : Int) =
      (((a / 10 + a % 10 * 256) + (b / 10 + b % 10 * 256) * 65536 + (c / 10 + c % 10 * 256) * 4294967296 + (d / 10 + d % 10 * 256) * 281474976710656 : Nat) : Int) := by
  have hq := quo4 a b c d ha hb hc hd
  have hs := step4 a b c d ha hb hc hd
  generalize hx : a + b * 65536 + c * 4294967296 + d * 281474976710656 = X at hq hs ⊢
  have hX : X < 28147497671065600 := by omega
  unfold pairsZ
  rw [wrap_wrap]
  have e1 : ((X : Int) * 103) = ((X * 103 : Nat) : Int) := by omega
  have e2 : IntKind.u64.wrap ((X : Int) * 103) / 1024 = ((X * 103 / 1024 : Nat) : Int) := by
    rw [e1, wrap_id _ (by omega)]; omega
  have e3 : bits .and .u64 (((X * 103 / 1024 : Nat) : Int)) 4222189076152335 = ((X * 103 / 1024 &&& 4222189076152335 : Nat) : Int) :=
    u64_and_nat _ 4222189076152335 (by omega) (by omega)
  rw [e2, e3, hq, ← hs]
  generalize a / 10 + b / 10 * 65536 + c / 10 * 4294967296 + d / 10 * 281474976710656 = q
  have e4 : ((X : Int) * 256 + (q : Int) * 18446744073709549057) = ((X * 256 + q * 18446744073709549057 : Nat) : Int) := by omega
  rw [e4, wrap_nat]

theorem d4Z_eq (a b : Nat) (ha : a < 10000) (hb : b < 10000) :
    d4Z ((a + b * 4294967296 : Nat) : Int) = ((laneN a + laneN b * 4294967296 : Nat) : Int) := by
  have hq := quo2 a b ha hb
  have hs := step2 a b ha hb
  have hp := pairsZ_eq (a / 100) (a % 100) (b / 100) (b % 100) (by omega) (by omega) (by omega) (by omega)
  generalize hx : a + b * 4294967296 = X at hq hs ⊢
  have hX : X < 42949672960000 := by omega
  unfold d4Z
  rw [wrap_wrap]
  have e1 : ((X : Int) * 10486) = ((X * 10486 : Nat) : Int) := by omega
  have e2 : IntKind.u64.wrap ((X : Int) * 10486) / 1048576 = ((X * 10486 / 1048576 : Nat) : Int) := by
    rw [e1, wrap_id _ (by omega)]; omega
  have e3 : bits .and .u64 (((X * 10486 / 1048576 : Nat) : Int)) 545460846719 = ((X * 10486 / 1048576 &&& 545460846719 : Nat) : Int) :=
    u64_and_nat _ 545460846719 (by omega) (by omega)
  rw [e2, e3, hq]
  have e4 : ((X : Int) * 65536 + ((a / 100 + b / 100 * 4294967296 : Nat) : Int) * 18446744073702998017) = ((X * 65536 + (a / 100 + b / 100 * 4294967296) * 18446744073702998017 : Nat) : Int) := by omega
  rw [e4, wrap_nat, hs, hp]
  have l1 := laneN_pairs a
  have l2 := laneN_pairs b
  congr 1
  omega

/-- the model's lane, as the walk writes it -/
def laneZ (v : Int) : Int := bits .or .u64 (bits .or .u64 (bits .or .u64 (v / 1000) (v / 100 % 10 * 256)) (v / 10 % 10 * 65536)) (v % 10 * 16777216)

theorem or_add (i x y : Nat) (hx : x < 2 ^ i) (hi : y * 2 ^ i < 18446744073709551616) (h64 : x < 18446744073709551616) :
    bits .or .u64 (x : Int) ((y * 2 ^ i : Nat) : Int) = ((x + y * 2 ^ i : Nat) : Int) := by
  rw [u64_or_nat _ _ h64 hi]
  rw [Nat.or_comm, nat_join i (y * 2 ^ i) x (Nat.mul_mod_left _ _) hx, Nat.add_comm]

theorem laneZ_eq (v : Nat) (h : v < 10000) : laneZ (v : Int) = (laneN v : Int) := by
  unfold laneZ laneN
  have e1 : (v : Int) / 1000 = ((v / 1000 : Nat) : Int) := by omega
  have e2 : (v : Int) / 100 % 10 * 256 = ((v / 100 % 10 * 2 ^ 8 : Nat) : Int) := by omega
  have e3 : (v : Int) / 10 % 10 * 65536 = ((v / 10 % 10 * 2 ^ 16 : Nat) : Int) := by omega
  have e4 : (v : Int) % 10 * 16777216 = ((v % 10 * 2 ^ 24 : Nat) : Int) := by omega
  rw [e1, e2, e3, e4, or_add 8 _ _ (by omega) (by omega) (by omega), or_add 16 _ _ (by omega) (by omega) (by omega), or_add 24 _ _ (by omega) (by omega) (by omega)]
end Go.Proofs.Qxb6602854a.dig

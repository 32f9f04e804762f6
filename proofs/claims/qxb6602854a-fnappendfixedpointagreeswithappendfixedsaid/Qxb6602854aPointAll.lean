import Derived.Test.Qxb6602854aPoint1
import Derived.Test.Qxb6602854aPoint2
namespace Go.Proofs.Qxb6602854a.bys
open Go.RowKit

/-- appendFixedPoint, WHATEVER THE CASE -/
theorem point_any (v : Value) (B B' : Nat) (bs : List Int) (neg : Bool) (g M : Nat) (T : List Int) (s p : Nat) (w : World) (hO : Own w B v bs) (hB : B ≤ w.heap.size) (hT : Own w B' (.slice (some ⟨g, 0, none⟩) M M) T)
    (hne : v.ownBlock ≠ some g) (hl : bs.length ≤ 1048576) (hMx : M ≤ 1048576) (hs2 : s + 2 ≤ M) (hpp : p ≤ 65536) (hfit : (if neg then 1 else 0) + (if M - 1 - s ≤ p then 2 + p - (M - 1 - s) else 0) ≤ s) :
    Calls Try.prog 23 #[v, .bool neg, .slice (some ⟨g, 0, none⟩) M M, .int .i64 s, .int .i64 p] w fun e w' => ∃ v', e = .returned v' ∧ Own w' B v' (bs ++ out neg T s p) ∧ Own w' B' (.slice (some ⟨g, 0, none⟩) M M) (put T (lo neg M s p) (out neg T s p)) ∧ Fx w w' v v' g := by
  by_cases h1 : M - 1 - s ≤ p
  · rw [if_pos h1] at hfit
    cases neg with
    | false =>
      simp only [Bool.false_eq_true, if_false] at hfit
      exact pnt1 v B B' bs g M T s p (M - 1 - p) w hO hB hT hne hl hMx hs2 hpp (by omega) (by omega) (by omega)
    | true =>
      simp only [if_true] at hfit
      exact pnt1n v B B' bs g M T s p (M - 1 - p) w hO hB hT hne hl hMx hs2 hpp (by omega) (by omega) (by omega)
  · rw [if_neg h1] at hfit
    by_cases h2 : 0 < p
    · cases neg with
      | false => exact pnt2 v B B' bs g M T s p (M - 1 - p) w hO hB hT hne hl hMx hs2 hpp (by omega) (by omega) h2
      | true =>
        simp only [if_true] at hfit
        exact pnt2n v B B' bs g M T s p (M - 1 - p) w hO hB hT hne hl hMx hs2 hpp (by omega) (by omega) h2 (by omega)
    · obtain rfl : p = 0 := by omega
      cases neg with
      | false => exact pnt3 v B B' bs g M T s w hO hB hT hne hl hMx hs2
      | true =>
        simp only [if_true] at hfit
        exact pnt3n v B B' bs g M T s w hO hB hT hne hl hMx hs2 (by omega)

theorem zzpoint_any (v : Value) (B B' : Nat) (bs : List Int) (neg : Bool) (g M : Nat) (T : List Int) (s p : Nat) (w : World) (hO : Own w B v bs) (hB : B ≤ w.heap.size) (hT : Own w B' (.slice (some ⟨g, 0, none⟩) M M) T)
    (hne : v.ownBlock ≠ some g) (hl : bs.length ≤ 1048576) (hMx : M ≤ 1048576) (hs2 : s + 2 ≤ M) (hpp : p ≤ 65536) (hfit : (if neg then 1 else 0) + (if M - 1 - s ≤ p then 2 + p - (M - 1 - s) else 0) ≤ s) :
    Calls Try.prog 19 #[v, .bool neg, .slice (some ⟨g, 0, none⟩) M M, .int .i64 s, .int .i64 p] w fun e w' => ∃ v', e = .returned v' ∧ Own w' B v' (bs ++ out neg T s p) ∧ Own w' B' (.slice (some ⟨g, 0, none⟩) M M) (put T (lo neg M s p) (out neg T s p)) ∧ Fx w w' v v' g := by
  have HF : Hid ((if neg then 1 else 0) + (if M - 1 - s ≤ p then 2 + p - (M - 1 - s) else 0) ≤ s) := hfit
  have HN : Hid (v.ownBlock ≠ some g) := hne
  clear hfit hne
  go_enter Try.func19, Try.ntmps19
  go_wp2_with (go_at_call 23; refine (point_any v B B' bs neg g M T s p _ hO hB hT HN.out hl hMx hs2 hpp HF.out).mono ?_; rintro e w' ⟨v', rfl, h1, h2, h3⟩)
  go_ret
  exact ⟨v', rfl, h1, h2, h3⟩

/-! ### fixedPointFits -/
def Fits (M : Nat) (neg : Bool) (s p : Int) : Prop :=
  0 ≤ p ∧ p ≤ 65536 ∧ 0 ≤ s ∧ s ≤ (M : Int) - 2 ∧ (if neg then 1 else 0) + (if (M : Int) - 1 - s ≤ p then 2 + p - ((M : Int) - 1 - s) else 0) ≤ s
theorem ret_t {q : Prop} {d : Decidable q} (h : q) : Ending.returned (.bool (@decide q d)) = .returned (.bool true) := by rw [decide_eq_true h]
theorem ret_f {q : Prop} {d : Decidable q} (h : ¬ q) : Ending.returned (.bool (@decide q d)) = .returned (.bool false) := by rw [decide_eq_false h]
theorem fits_yes (M : Nat) (neg : Bool) (s p : Int) (w : World) (hM : M ≤ 1048576) (h : Fits M neg s p) :
    Calls Try.prog 18 #[.int .i64 M, .bool neg, .int .i64 s, .int .i64 p] w fun e w' => e = .returned (.bool true) ∧ w' = w := by
  obtain ⟨h1, h2, h3, h4, h5⟩ := h
  by_cases h6 : (M : Int) - 1 - s ≤ p
  · rw [if_pos h6] at h5
    cases neg with
    | false =>
      simp only [Bool.false_eq_true, if_false] at h5
      go_enter Try.func18, Try.ntmps18
      go_wp2
      go_ret
      first | exact ⟨rfl, rfl⟩ | exact ⟨ret_t (by omega), rfl⟩
    | true =>
      simp only [if_true] at h5
      go_enter Try.func18, Try.ntmps18
      go_wp2
      go_ret
      first | exact ⟨rfl, rfl⟩ | exact ⟨ret_t (by omega), rfl⟩
  · rw [if_neg h6] at h5
    cases neg with
    | false =>
      simp only [Bool.false_eq_true, if_false] at h5
      go_enter Try.func18, Try.ntmps18
      go_wp2
      go_ret
      first | exact ⟨rfl, rfl⟩ | exact ⟨ret_t (by omega), rfl⟩
    | true =>
      simp only [if_true] at h5
      go_enter Try.func18, Try.ntmps18
      go_wp2
      go_ret
      first | exact ⟨rfl, rfl⟩ | exact ⟨ret_t (by omega), rfl⟩
theorem fits_no (M : Nat) (neg : Bool) (s p : Int) (w : World) (hM : M ≤ 1048576) (h : ¬ Fits M neg s p) :
    Calls Try.prog 18 #[.int .i64 M, .bool neg, .int .i64 s, .int .i64 p] w fun e w' => e = .returned (.bool false) ∧ w' = w := by
  by_cases h1 : p < 0
  · clear h
    go_enter Try.func18, Try.ntmps18
    go_wp2
    go_ret
    first | exact ⟨rfl, rfl⟩ | exact ⟨ret_f (by omega), rfl⟩
  · by_cases h2 : 65536 < p
    · clear h
      go_enter Try.func18, Try.ntmps18
      go_wp2
      go_ret
      first | exact ⟨rfl, rfl⟩ | exact ⟨ret_f (by omega), rfl⟩
    · by_cases h3 : s < 0
      · clear h
        go_enter Try.func18, Try.ntmps18
        go_wp2
        go_ret
        first | exact ⟨rfl, rfl⟩ | exact ⟨ret_f (by omega), rfl⟩
      · by_cases h4 : (M : Int) - 2 < s
        · clear h
          go_enter Try.func18, Try.ntmps18
          go_wp2
          go_ret
          first | exact ⟨rfl, rfl⟩ | exact ⟨ret_f (by omega), rfl⟩
        · have h5 : ¬ ((if neg then 1 else 0) + (if (M : Int) - 1 - s ≤ p then 2 + p - ((M : Int) - 1 - s) else 0) ≤ s) := fun h5 => h ⟨by omega, by omega, by omega, by omega, h5⟩
          clear h
          by_cases h6 : (M : Int) - 1 - s ≤ p
          · rw [if_pos h6] at h5
            cases neg with
            | false =>
              simp only [Bool.false_eq_true, if_false] at h5
              go_enter Try.func18, Try.ntmps18
              go_wp2
              go_ret
              first | exact ⟨rfl, rfl⟩ | exact ⟨ret_f (by omega), rfl⟩
            | true =>
              simp only [if_true] at h5
              go_enter Try.func18, Try.ntmps18
              go_wp2
              go_ret
              first | exact ⟨rfl, rfl⟩ | exact ⟨ret_f (by omega), rfl⟩
          · rw [if_neg h6] at h5
            cases neg with
            | false =>
              simp only [Bool.false_eq_true, if_false] at h5
              omega
            | true =>
              simp only [if_true] at h5
              go_enter Try.func18, Try.ntmps18
              go_wp2
              go_ret
              first | exact ⟨rfl, rfl⟩ | exact ⟨ret_f (by omega), rfl⟩
end Go.Proofs.Qxb6602854a.bys

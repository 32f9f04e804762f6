import Derived.Test.Qxb6602854aRows
import Derived.WalkKit
namespace Go.Proofs.Qxb6602854a.bys
open Go.RowKit

theorem zzb11_yes (a0 a2 : Option Addr) (n0 c0 n2 c2 : Nat) (b : Bool) (k prec : Int) (w : World) (h : n0 + n2 ≤ 1048576) :
    Calls Try.prog 11 #[.slice a0 n0 c0, .bool b, .slice a2 n2 c2, .int .i64 k, .int .i64 prec] w fun e w' => e = .returned (.bool true) ∧ w' = w := by
  go_enter Try.func11, Try.ntmps11
  go_wp2
  go_ret
  exact ⟨rfl, rfl⟩
theorem zzb11_no (a0 a2 : Option Addr) (n0 c0 n2 c2 : Nat) (b : Bool) (k prec : Int) (w : World) (h0 : n0 ≤ maxLen) (h2 : n2 ≤ maxLen) (h : ¬ n0 + n2 ≤ 1048576) :
    Calls Try.prog 11 #[.slice a0 n0 c0, .bool b, .slice a2 n2 c2, .int .i64 k, .int .i64 prec] w fun e w' => e = .returned (.bool false) ∧ w' = w := by
  unfold maxLen at h0 h2
  by_cases g0 : n0 ≤ 1048576
  · by_cases g2 : n2 ≤ 1048576
    · go_enter Try.func11, Try.ntmps11
      go_wp2
      go_ret
      exact ⟨rfl, rfl⟩
    · go_enter Try.func11, Try.ntmps11
      go_wp2
      go_ret
      exact ⟨rfl, rfl⟩
  · go_enter Try.func11, Try.ntmps11
    go_wp2
    go_ret
    exact ⟨rfl, rfl⟩

theorem zzb17_yes (a0 a2 : Option Addr) (n0 c0 n2 c2 : Nat) (b : Bool) (k prec : Int) (w : World) (h : n0 + n2 ≤ 1048576) :
    Calls Try.prog 17 #[.slice a0 n0 c0, .bool b, .slice a2 n2 c2, .int .i64 k, .int .i64 prec] w fun e w' => e = .returned (.bool true) ∧ w' = w := by
  go_enter Try.func17, Try.ntmps17
  go_wp2
  go_ret
  exact ⟨rfl, rfl⟩
theorem zzb17_no (a0 a2 : Option Addr) (n0 c0 n2 c2 : Nat) (b : Bool) (k prec : Int) (w : World) (h0 : n0 ≤ maxLen) (h2 : n2 ≤ maxLen) (h : ¬ n0 + n2 ≤ 1048576) :
    Calls Try.prog 17 #[.slice a0 n0 c0, .bool b, .slice a2 n2 c2, .int .i64 k, .int .i64 prec] w fun e w' => e = .returned (.bool false) ∧ w' = w := by
  unfold maxLen at h0 h2
  by_cases g0 : n0 ≤ 1048576
  · by_cases g2 : n2 ≤ 1048576
    · go_enter Try.func17, Try.ntmps17
      go_wp2
      go_ret
      exact ⟨rfl, rfl⟩
    · go_enter Try.func17, Try.ntmps17
      go_wp2
      go_ret
      exact ⟨rfl, rfl⟩
  · go_enter Try.func17, Try.ntmps17
    go_wp2
    go_ret
    exact ⟨rfl, rfl⟩

theorem zzb20_yes (a0 a2 : Option Addr) (n0 c0 n2 c2 : Nat) (b : Bool) (k prec : Int) (w : World) (h : n0 + n2 ≤ 1048576) :
    Calls Try.prog 20 #[.slice a0 n0 c0, .bool b, .slice a2 n2 c2, .int .i64 k, .int .i64 prec] w fun e w' => e = .returned (.bool true) ∧ w' = w := by
  go_enter Try.func20, Try.ntmps20
  go_wp2
  go_ret
  exact ⟨rfl, rfl⟩
theorem zzb20_no (a0 a2 : Option Addr) (n0 c0 n2 c2 : Nat) (b : Bool) (k prec : Int) (w : World) (h0 : n0 ≤ maxLen) (h2 : n2 ≤ maxLen) (h : ¬ n0 + n2 ≤ 1048576) :
    Calls Try.prog 20 #[.slice a0 n0 c0, .bool b, .slice a2 n2 c2, .int .i64 k, .int .i64 prec] w fun e w' => e = .returned (.bool false) ∧ w' = w := by
  unfold maxLen at h0 h2
  by_cases g0 : n0 ≤ 1048576
  · by_cases g2 : n2 ≤ 1048576
    · go_enter Try.func20, Try.ntmps20
      go_wp2
      go_ret
      exact ⟨rfl, rfl⟩
    · go_enter Try.func20, Try.ntmps20
      go_wp2
      go_ret
      exact ⟨rfl, rfl⟩
  · go_enter Try.func20, Try.ntmps20
    go_wp2
    go_ret
    exact ⟨rfl, rfl⟩
end Go.Proofs.Qxb6602854a.bys

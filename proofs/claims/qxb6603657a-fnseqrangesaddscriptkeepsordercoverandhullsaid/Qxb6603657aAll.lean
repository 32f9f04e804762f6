import Derived.Test.Qxb6603657aModelZero
import Derived.Test.Qxb6603657aSmall
import Derived.Test.Qxb6603657aZZadd
namespace Go.Proofs.Qxb6603657a.sr
open Go.RowKit
set_option linter.unusedVariables false
theorem clone_any (a : Option Addr) (n cap : Nat) (zs : List Int) (w : World) (hR : Rd w a n zs) (hnil : a = none → n = 0 ∧ cap = 0) (hn : n ≤ 1048576) :
    Calls Try.prog 9 #[.slice a n cap] w fun e w' => ∃ a', e = .returned (.slice a' n n) ∧ Rd w' a' n zs ∧ w.grownBy w' none := by
  cases a with
  | none =>
    obtain ⟨rfl, rfl⟩ := hnil rfl
    refine (clone_nil w).mono ?_
    rintro e w' ⟨rfl, rfl⟩
    exact ⟨none, rfl, ⟨hR.1, fun h => absurd h (by omega)⟩, grownBy_refl _ _⟩
  | some x =>
    refine (clone_some x n cap zs w hR hn).mono ?_
    rintro e w' ⟨rfl, h1, h2⟩
    exact ⟨_, rfl, ⟨hR.1, fun _ => ⟨_, 0, rfl, fun j hj => by rw [Nat.zero_add]; exact h1.at (by rw [hR.1]; exact hj)⟩⟩, h2⟩
theorem Rd.kept {w w' : World} {a : Option Addr} {n : Nat} {zs : List Int} (h : Rd w a n zs) (hg : w.grownBy w' none) : Rd w' a n zs := by
  refine ⟨h.1, fun hp => ?_⟩
  obtain ⟨b, off, e, hc⟩ := h.2 hp
  refine ⟨b, off, e, fun j hj => ?_⟩
  have hlt : b < w.heap.size := World.block_lt_of_cell? w ⟨b, off + j, none⟩ (hc j hj)
  exact cell_old hg hlt (hc j hj)
theorem union_all (a1 a2 : Option Addr) (n c1 c2 : Nat) (fs ls : List Int) (F L : Int) (w : World) (hn : n ≤ 1024) (h1 : Rd w a1 n fs) (h2 : Rd w a2 n ls)
    (hbd : ∀ x ∈ ins (fs.zip ls) F L, -9223372036854775808 < x.1 ∧ x.1 ≤ 9223372036854775807) :
    Calls Try.prog 11 #[.slice a1 n c1, .slice a2 n c2, .int .i64 F, .int .i64 L] w fun e w' => Un w (capU (swp (ins (fs.zip ls) F L))) e w' := by
  by_cases hp : 0 < n
  · obtain ⟨b1, o1, rfl, hc1⟩ := h1.2 hp
    obtain ⟨b2, o2, rfl, hc2⟩ := h2.2 hp
    exact union_any b1 o1 b2 o2 n c1 c2 fs ls F L w hn h1.1 h2.1 hp hc1 hc2 hbd
  · obtain rfl : n = 0 := by omega
    obtain rfl : fs = [] := List.eq_nil_of_length_eq_zero h1.1
    exact union_zero a1 a2 c1 c2 F L w
end Go.Proofs.Qxb6603657a.sr

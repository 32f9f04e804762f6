import Derived.Test.Qxb6603657aInts
import Derived.OpenShut
import Derived.Below
namespace Go.Proofs.Qxb6603657a.sr
open Go.RowKit
/-- what the frame hands in, as the walk wants it -/
theorem rd_of_row {w : World} {a : Option Addr} {len cap : Nat} {zs : List Int}
    (h : (a = none ∧ len = 0 ∧ cap = 0 ∧ zs = []) ∨ ∃ x, a = some x ∧ len ≤ cap ∧ cap ≤ maxLen ∧ zs.length = cap ∧ (∀ i, i < zs.length → w.cell? (x.add i) = some (.int .i64 (zs.getD i 0))) ∧ ∀ n ∈ zs, (Lit.int .i64 n).wf = true) :
    Rd w a len (zs.take len) ∧ (a = none → len = 0 ∧ cap = 0) ∧ len ≤ maxLen ∧ ∀ z ∈ zs.take len, -9223372036854775808 ≤ z ∧ z ≤ 9223372036854775807 := by
  rcases h with ⟨rfl, rfl, rfl, rfl⟩ | ⟨x, rfl, h1, h2, h3, h4, h5⟩
  · exact ⟨⟨rfl, fun h => absurd h (by omega)⟩, fun _ => ⟨rfl, rfl⟩, by unfold maxLen; omega, fun z hz => by simp at hz⟩
  · refine ⟨⟨by rw [List.length_take]; omega, fun hp => ?_⟩, (fun h => by cases h), by omega, fun z hz => bounds_i64 (h5 z (List.mem_of_mem_take hz))⟩
    obtain ⟨b, off, rfl, hc⟩ := ints_at h4 (by omega)
    refine ⟨b, off, rfl, fun j hj => ?_⟩
    rw [hc j (by omega)]
    simp [List.getD, hj]
theorem below_of_grown {w w' : World} (h : w.grownBy w' none) : Below w.heap.size w w' := ⟨h.os, h.tape, h.output, h.size, fun k hk => h.block k hk (by simp)⟩
end Go.Proofs.Qxb6603657a.sr

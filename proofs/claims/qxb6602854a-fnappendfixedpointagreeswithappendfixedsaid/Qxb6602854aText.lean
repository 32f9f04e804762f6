import Derived.Test.Qxb6602854aModelAll
import Derived.Test.Qxb6602854aPoint
import Derived.Deep.RegionLaw
namespace Go.Proofs.Qxb6602854a.bys
open Go.RowKit

/-! ### A ROW OF THE CALL's OWN THAT IS WRITTEN IN PLACE -/
section
variable {w : World} {B g M c : Nat} {T : List Int}
theorem Own.len (h : Own w B (.slice (some ⟨g, 0, none⟩) M c) T) : T.length = M := by
  obtain ⟨a', cap, e, _⟩ := h.rd
  simp at e
  exact e.2.1.symm
theorem Own.cell (h : Own w B (.slice (some ⟨g, 0, none⟩) M c) T) {j : Nat} (hj : j < M) : w.cell? ⟨g, j, none⟩ = some (.int .u8 (T.getD j 0)) := by
  have hl := h.len
  obtain ⟨a', cap, e, hr, _⟩ := h.rd
  simp at e
  obtain ⟨rfl, rfl, rfl⟩ := e
  have := hr.at (j := j) (by omega)
  rw [Nat.zero_add] at this
  exact this
theorem Own.free (h : Own w B (.slice (some ⟨g, 0, none⟩) M c) T) (j : Nat) : w.frozen? ⟨g, j, none⟩ = false := by
  have hl := h.len
  subst hl
  exact World.ownsRow.frozenAt h j
theorem Own.store (h : Own w B (.slice (some ⟨g, 0, none⟩) M c) T) (j : Nat) (x : Int) :
    Own (w.setCell ⟨g, j, none⟩ (.int .u8 x)) B (.slice (some ⟨g, 0, none⟩) M c) (T.set j x) ∧ w.grownBy (w.setCell ⟨g, j, none⟩ (.int .u8 x)) (some g) := by
  have hl := h.len
  subst hl
  have hs := World.ownsRow.stored h j (.int .u8 x)
  refine ⟨?_, hs.2⟩
  unfold Own cs
  rw [List.length_set, List.map_set]
  exact hs.1
theorem Own.block (h : Own w B (.slice (some ⟨g, 0, none⟩) M M) T) : w.heap[g]? = some (.cells (cs T).toArray 5 (0, 0)) ∧ B ≤ g ∧ M ≤ maxLen := by
  have hl := h.len
  rcases h.2 with ⟨h1, _⟩ | ⟨g', cap, cur, h1, hB, hg, hnc, hcm, hcs, htake⟩
  · simp at h1
  · simp at h1
    obtain ⟨rfl, rfl, rfl⟩ := h1
    have : cur = (cs T).toArray := by
      rw [← htake, List.take_of_length_le (by simp; omega)]
    rw [this] at hg
    exact ⟨hg, hB, hcm⟩
end
theorem grownBy_trans {w w1 w2 : World} {r : Option Nat} (h : w.grownBy w1 r) (k : w1.grownBy w2 r) : w.grownBy w2 r :=
  ⟨k.os.trans h.os, k.tape.trans h.tape, k.output.trans h.output, Nat.le_trans h.size k.size, fun j hj hne => (k.block j (Nat.lt_of_lt_of_le hj h.size) hne).trans (h.block j hj hne)⟩
theorem grownBy_drew {w w1 : World} {r : Option Nat} (h : w.grownBy w1 r) : w.grownBy w1.drew r := ⟨h.os, h.tape, h.output, h.size, h.block⟩
theorem Own.drew {w : World} {B : Nat} {v : Value} {bs : List Int} (h : Own w B v bs) : Own w.drew B v bs := h
theorem Own.grown {w w' : World} {B g : Nat} {v : Value} {bs : List Int} (h : Own w B v bs) (hg : w.grownBy w' (some g)) (hne : v.ownBlock ≠ some g) : Own w' B v bs := World.ownsRow.kept h hg (.inr hne)

/-- copy(text[pt+1:], text[pt:end]): as one step of a region that draws -/
theorem step_copy_text {ops : Array Oper} {o : Oper} {a : Act} {w : World} {K : Act → World → Prop} {Q : Exit → Act → World → Prop} {E : Prop} (hgd : o.guard = none) (d s : Operand)
    (ho : o.op = .call { callee := .builtin .copy, args := #[d, s], argTypes := #[26, 26] }) (B g M : Nat) (T : List Int) (pt : Nat) (hown : Own w B (.slice (some ⟨g, 0, none⟩) M M) T) (hpt : pt + 1 ≤ M)
    (sl sc dl dc : Nat) (hd : a.eval d = .slice (some ⟨g, pt + 1, none⟩) dl dc) (hs : a.eval s = .slice (some ⟨g, pt, none⟩) sl sc) (hsl : sl = M - 1 - pt) (hdl : dl = M - (pt + 1))
    (h : ∀ w', Own w' B (.slice (some ⟨g, 0, none⟩) M M) (put T (pt + 1) (mid T pt (M - 1))) → w.grownBy w' (some g) → K (a.put o.dst (goInt ((M - 1 - pt : Nat) : Int))) w') :
    if Region.wanted o (yielded ops a.tmps) = true then Oper.wp Try.prog o a w K Q else E := by
  have hw : Region.wanted o (yielded ops a.tmps) = true := by simp [Region.wanted, hgd]
  rw [if_pos hw]
  have hl := hown.len
  obtain ⟨hg, hB, hmx⟩ := hown.block
  have hml : (mid T pt (M - 1)).length = M - 1 - pt := mid_length (by omega)
  have hrun := run_copy_row (P := Try.prog) w 26 26 o.type 5 g (pt + 1) dl dc ⟨g, pt, none⟩ sl sc (cs T).toArray 5 (cs (mid T pt (M - 1))) Try.underlying26 size5 hg
    (by rw [cs_length, hml, hsl, hdl]; exact (Nat.min_eq_left (by omega)).symm)
    (fun j v hv => by
      obtain ⟨hj, rfl⟩ := cs_get hv
      rw [add_lit, hown.cell (by omega)]
      congr 2
      simp only [List.getD, mid_get, if_pos (show j < M - 1 - pt by omega)])
    (by rw [cs_length, hml]; simp [cs_length]; omega) (cs_one _)
  unfold Oper.wp
  simp [execOp, ho, resolve, invoke, builtin, hd, hs, hrun, Result.andThen]
  rw [cs_length, hml]
  refine h _ ?_ ⟨rfl, rfl, rfl, by simp, fun k _ hk => setRow_other w g k _ (fun e => hk (by rw [e]))⟩
  refine own_of_block ?_ hB (by rw [put_length (by rw [hml]; omega)]; exact hl) hmx
  have := setRow_heap w g (cs T).toArray ((cs T).toArray.toList.take (pt + 1) ++ (cs (mid T pt (M - 1)) ++ (cs T).toArray.toList.drop (pt + 1 + (cs (mid T pt (M - 1))).length))).toArray 5 (0, 0) hg
  rw [show cs (put T (pt + 1) (mid T pt (M - 1))) = (cs T).toArray.toList.take (pt + 1) ++ (cs (mid T pt (M - 1)) ++ (cs T).toArray.toList.drop (pt + 1 + (cs (mid T pt (M - 1))).length)) by
    simp [put, cs]]
  simpa [cs_length, hml] using this

/-- what writes into the row g and appends onto v have done -/
structure Fx (w w' : World) (v v' : Value) (g : Nat) : Prop where
  os : w'.os = w.os
  tape : w'.tape = w.tape
  output : w'.output = w.output
  size : w.heap.size ≤ w'.heap.size
  block : ∀ k, k < w.heap.size → some k ≠ v.ownBlock → k ≠ g → w'.heap[k]? = w.heap[k]?
  own : v'.ownBlock = v.ownBlock ∨ ∀ k, v'.ownBlock = some k → w.heap.size ≤ k

theorem fx_of {w W w' : World} {v v' : Value} {g : Nat} (hG : w.grownBy W (some g)) (hA : Ap W v w' v') : Fx w w' v v' g :=
  ⟨hA.1.os.trans hG.os, hA.1.tape.trans hG.tape, hA.1.output.trans hG.output, Nat.le_trans hG.size hA.1.size,
    fun k hk h1 h2 => (hA.1.block k (Nat.lt_of_lt_of_le hk hG.size) h1).trans (hG.block k hk (fun e => h2 (by simpa using e))),
    hA.2.imp id fun h k hk => Nat.le_trans hG.size (h k hk)⟩
theorem text_kept {W w' : World} {v v' : Value} {B' g M : Nat} {T' : List Int} (hA : Ap W v w' v') (hne : v.ownBlock ≠ some g) (hT : Own W B' (.slice (some ⟨g, 0, none⟩) M M) T') : Own w' B' (.slice (some ⟨g, 0, none⟩) M M) T' :=
  hA.own hT (.inr fun e => hne (by rw [← e]; rfl))
/-- ahead of the append: the source and the slice that is appended to -/
theorem prep {w W : World} {v : Value} {B B' g M l : Nat} {bs T' xs : List Int} (hO : Own w B v bs) (hB : B ≤ w.heap.size) (hne : v.ownBlock ≠ some g) (hG : w.grownBy W (some g)) (hT : Own W B' (.slice (some ⟨g, 0, none⟩) M M) T')
    (hx : mid T' l (l + xs.length) = xs) (hl : l + xs.length ≤ M) : St B W v bs none 0 [] W v [] ∧ Rd W (some ⟨g, l, none⟩) xs.length xs := by
  refine ⟨⟨by rw [List.append_nil]; exact hO.grown hG hne, Ap.refl _ _, ⟨⟨rfl, fun h => absurd h (by omega)⟩, fun h => absurd h (by omega)⟩, Nat.le_trans hB hG.size⟩, ?_⟩
  have h1 := (hT.rd'.1.drop (m := l) (by omega)).take (m := xs.length) (by omega)
  rw [Nat.zero_add] at h1
  unfold mid at hx
  rw [Nat.add_sub_cancel_left] at hx
  rw [hx] at h1
  exact h1
theorem Rd.cast {w : World} {g o o' m m' : Nat} {xs : List Int} (h : Rd w (some ⟨g, o, none⟩) m xs) (eo : o = o') (em : m = m') : Rd w (some ⟨g, o', none⟩) m' xs := by subst eo; subst em; exact h
end Go.Proofs.Qxb6602854a.bys

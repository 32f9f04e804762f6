import Derived.Test.Qxb6603657aReplace
import Derived.Test.Qxb6603657aSearch
import Derived.BigRegion
namespace Go.Proofs.Qxb6603657a.sr
open Go.RowKit
/-- minimum and maximum, as the walk leaves them standing -/
def minI (a b : Int) : Int := if b < a then b else a
def maxI (a b : Int) : Int := if a < b then b else a
def tB (L F : Int) : Bool := decide (F - 1 ≤ L)

/-- WHAT STANDS IN add: r in block N, rs in block N + 1, the row in block g; of old memory nothing else has turned. -/
structure As (w w1 : World) (bs g : Nat) (vs v0 : Value) (r : Int × Int) (C : List (Int × Int)) : Prop where
  rvar : Row w1 w.heap.size [r]
  svar : w1.heap[w.heap.size + 1]? = some (.cells #[vs] 49 (0, 0))
  row : Row w1 g C
  bcell : w1.cell? ⟨bs, 0, none⟩ = some v0
  bfree : w1.frozen? ⟨bs, 0, none⟩ = false
  old : w.grownBy w1 (some g)
  bsl : bs < w.heap.size
  bsg : bs ≠ g
  gN : g ≠ w.heap.size
section
variable {w w1 : World} {bs g : Nat} {vs v0 : Value} {r : Int × Int} {C : List (Int × Int)}
theorem As.gS (h : As w w1 bs g vs v0 r C) : g ≠ w.heap.size + 1 := by
  intro e
  have h1 := h.row
  have h2 := h.svar
  unfold Row at h1
  rw [← e, h1] at h2
  simp at h2
theorem As.facts (h : As w w1 bs g vs v0 r C) :
    w1.cell? ⟨w.heap.size, 0, none⟩ = some (.int .i64 r.1) ∧ w1.cell? ⟨w.heap.size, 1, none⟩ = some (.int .i64 r.2) ∧ w1.cell? ⟨w.heap.size + 1, 0, none⟩ = some vs ∧
    w1.frozen? ⟨w.heap.size, 0, none⟩ = false ∧ w1.frozen? ⟨w.heap.size, 1, none⟩ = false ∧ w1.frozen? ⟨w.heap.size + 1, 0, none⟩ = false := by
  have hs := h.svar
  refine ⟨by rw [h.rvar.at]; rfl, by rw [h.rvar.at]; rfl, ?_, h.rvar.free 0, h.rvar.free 1, ?_⟩
  · rw [cell_of_row w1 _ 0 _ 49 (0, 0) hs]; rfl
  · simp [World.frozen?, hs]
theorem As.drewN (h : As w w1 bs g vs v0 r C) (q : Nat) : As w (w1.drewN q) bs g vs v0 r C :=
  ⟨h.rvar, h.svar, h.row, h.bcell, h.bfree, grownBy_trans h.old (grownBy_drewN _ _ _), h.bsl, h.bsg, h.gN⟩
theorem As.size (h : As w w1 bs g vs v0 r C) : w.heap.size + 2 ≤ w1.heap.size := (Array.getElem?_eq_some_iff.1 h.svar).1
/-- the start -/
theorem As.start (hR : Row w g C) (hb : w.cell? ⟨bs, 0, none⟩ = some v0) (hf : w.frozen? ⟨bs, 0, none⟩ = false) (hne : bs ≠ g) :
    As w ((w.alloc (Obj.cells #[Value.int IntKind.i64 r.1, Value.int IntKind.i64 r.2] 28)).alloc (Obj.cells #[v0] 49)) bs g v0 v0 r C := by
  have hlt := World.block_lt_of_cell? w ⟨bs, 0, none⟩ hb
  have hg := hR.lt
  have e1 : (w.alloc (Obj.cells #[Value.int IntKind.i64 r.1, Value.int IntKind.i64 r.2] 28)).heap.size = w.heap.size + 1 := by simp
  have hold : w.grownBy ((w.alloc (Obj.cells #[Value.int IntKind.i64 r.1, Value.int IntKind.i64 r.2] 28)).alloc (Obj.cells #[v0] 49)) none :=
    ⟨rfl, rfl, rfl, by simp; omega, fun k hk _ => by rw [Below.heap_alloc _ _ _ (by rw [e1]; omega), Below.heap_alloc _ _ _ hk]⟩
  refine ⟨?_, ?_, hR.kept hold (by simp), ?_, ?_, ⟨hold.os, hold.tape, hold.output, hold.size, fun k hk _ => hold.block k hk (by simp)⟩, hlt, hne, by omega⟩
  · unfold Row
    rw [Below.heap_alloc _ _ _ (by rw [e1]; omega)]
    exact heap_alloc_new w _
  · have := heap_alloc_new (w.alloc (Obj.cells #[Value.int IntKind.i64 r.1, Value.int IntKind.i64 r.2] 28)) (Obj.cells #[v0] 49)
    rw [e1] at this
    exact this
  · rw [World.cell?_of_block (w := w) (hold.block bs hlt (by simp))]; exact hb
  · rw [World.frozen?_of_block (w := w) (hold.block bs hlt (by simp))]; exact hf
/-- r is written -/
theorem As.setr (h : As w w1 bs g vs v0 r C) (a b : Int) : As w ((w1.setCell ⟨w.heap.size, 0, none⟩ (.int .i64 a)).setCell ⟨w.heap.size, 1, none⟩ (.int .i64 b)) bs g vs v0 (a, b) C := by
  have hbs := h.bsl
  have hrv : w1.heap[w.heap.size]? = some (.cells #[.int .i64 r.1, .int .i64 r.2] 28 (0, 0)) := h.rvar
  have h1 := heap_setCell_same w1 w.heap.size 0 _ 28 (.int .i64 a) hrv
  have h2 := heap_setCell_same _ w.heap.size 1 _ 28 (.int .i64 b) h1
  have ho : ∀ k, k ≠ w.heap.size → ((w1.setCell ⟨w.heap.size, 0, none⟩ (.int .i64 a)).setCell ⟨w.heap.size, 1, none⟩ (.int .i64 b)).heap[k]? = w1.heap[k]? := fun k hk => by
    rw [heap_setCell_other _ _ _ _ (by simpa using hk), heap_setCell_other _ _ _ _ (by simpa using hk)]
  refine ⟨h2, by rw [ho _ (by omega)]; exact h.svar, ?_, ?_, ?_, ⟨h.old.os, h.old.tape, h.old.output, by simpa using h.old.size, fun k hk hne => by rw [ho k (by omega)]; exact h.old.block k hk hne⟩, h.bsl, h.bsg, h.gN⟩
  · unfold Row; rw [ho g h.gN]; exact h.row
  · rw [World.cell?_of_block (w := w1) (ho bs (by omega))]; exact h.bcell
  · rw [World.frozen?_of_block (w := w1) (ho bs (by omega))]; exact h.bfree
/-- rs is written -/
theorem As.sets (h : As w w1 bs g vs v0 r C) (v : Value) : As w (w1.setCell ⟨w.heap.size + 1, 0, none⟩ v) bs g v v0 r C := by
  have hbs := h.bsl
  have h1 := one_setCell (u := v) h.svar
  have ho : ∀ k, k ≠ w.heap.size + 1 → (w1.setCell ⟨w.heap.size + 1, 0, none⟩ v).heap[k]? = w1.heap[k]? := fun k hk => by
    rw [heap_setCell_other _ _ _ _ (by simpa using hk)]
  refine ⟨by unfold Row; rw [ho _ (by omega)]; exact h.rvar, h1, ?_, ?_, ?_, ⟨h.old.os, h.old.tape, h.old.output, by simpa using h.old.size, fun k hk hne => by rw [ho k (by omega)]; exact h.old.block k hk hne⟩, h.bsl, h.bsg, h.gN⟩
  · unfold Row; rw [ho g h.gS]; exact h.row
  · rw [World.cell?_of_block (w := w1) (ho bs (by omega))]; exact h.bcell
  · rw [World.frozen?_of_block (w := w1) (ho bs (by omega))]; exact h.bfree
/-- the row is written -/
theorem As.rowed {w2 : World} {D : List (Int × Int)} (h : As w w1 bs g vs v0 r C) (hD : Row w2 g D) (hg : w1.grownBy w2 (some g)) : As w w2 bs g vs v0 r D := by
  have hbs := h.bsl
  have hsz := h.size
  have ho : ∀ k, k < w1.heap.size → k ≠ g → w2.heap[k]? = w1.heap[k]? := fun k hk hne => hg.block k hk (by simpa using hne)
  refine ⟨by unfold Row; rw [ho _ (by omega) (Ne.symm h.gN)]; exact h.rvar, by rw [ho _ (by omega) (Ne.symm h.gS)]; exact h.svar, hD, ?_, ?_, grownBy_trans h.old hg, h.bsl, h.bsg, h.gN⟩
  · rw [World.cell?_of_block (w := w1) (ho bs (by omega) h.bsg)]; exact h.bcell
  · rw [World.frozen?_of_block (w := w1) (ho bs (by omega) h.bsg)]; exact h.bfree
/-- a new row is made, and becomes the row -/
theorem As.grown {w2 : World} {g2 : Nat} {D : List (Int × Int)} (h : As w w1 bs g vs v0 r C) (hw : Row w g C) (hg2 : w1.heap.size ≤ g2) (hD : Row w2 g2 D) (hg : w1.grownBy w2 none) : As w w2 bs g2 vs v0 r D := by
  have hbs := h.bsl
  have hsz := h.size
  have ho : ∀ k, k < w1.heap.size → w2.heap[k]? = w1.heap[k]? := fun k hk => hg.block k hk (by simp)
  have h1 := h.row
  have h2 := hw
  unfold Row at h1 h2
  refine ⟨by unfold Row; rw [ho _ (by omega)]; exact h.rvar, by rw [ho _ (by omega)]; exact h.svar, hD, ?_, ?_, ⟨hg.os.trans h.old.os, hg.tape.trans h.old.tape, hg.output.trans h.old.output, Nat.le_trans h.old.size hg.size, fun k hk _ => ?_⟩, hbs, by omega, by omega⟩
  · rw [World.cell?_of_block (w := w1) (ho bs (by omega))]; exact h.bcell
  · rw [World.frozen?_of_block (w := w1) (ho bs (by omega))]; exact h.bfree
  · rw [ho k (by omega)]
    by_cases e : k = g
    · subst e; rw [h1, h2]
    · exact h.old.block k hk (by simpa using e)
/-- a new block -/
theorem As.alloc (h : As w w1 bs g vs v0 r C) (o : Obj) : As w (w1.alloc o) bs g vs v0 r C := by
  have hg := h.row.lt
  exact h.rowed (by unfold Row; rw [Below.heap_alloc _ _ _ hg]; exact h.row) (World.grownBy_alloc w1 o _)
end

/-- one First of the row is written -/
theorem As.setf {w w1 : World} {bs g : Nat} {vs v0 : Value} {r : Int × Int} {C : List (Int × Int)} (h : As w w1 bs g vs v0 r C) (k : Nat) (hk : k < C.length) (a : Int) :
    As w (w1.setCell ⟨g, k * 2, none⟩ (.int .i64 a)) bs g vs v0 r (putp C k [(a, (C.getD k (0, 0)).2)]) := by
  have hr := h.row
  unfold Row at hr
  have h1 := heap_setCell_same w1 g (k * 2) _ 28 (.int .i64 a) hr
  have e : ((ps C).toArray.setIfInBounds (k * 2) (Value.int .i64 a)) = (ps (putp C k [(a, (C.getD k (0, 0)).2)])).toArray := by
    apply Array.ext'
    rw [Array.toList_setIfInBounds]
    apply List.ext_getElem?
    intro t
    rw [List.getElem?_set]
    simp only [ps_length]
    rw [ps_putp, List.append_assoc, List.getElem?_append, List.length_take, ps_length]
    have hm : min (k * 2) (C.length * 2) = k * 2 := by omega
    rw [hm]
    by_cases e0 : k * 2 = t
    · subst e0
      rw [if_pos rfl, if_pos (by omega), if_neg (by omega), Nat.sub_self]
      rfl
    · rw [if_neg e0]
      by_cases h3 : t < k * 2
      · rw [if_pos h3, List.getElem?_take, if_pos h3]
      · rw [if_neg h3, List.getElem?_append]
        by_cases h4 : t = k * 2 + 1
        · subst h4
          rw [if_pos (by simp [ps]), ps_get2 C k hk, show k * 2 + 1 - k * 2 = 1 by omega]
          rfl
        · rw [if_neg (by simp [ps]; omega), List.getElem?_drop]
          congr 1
          simp [ps]
          omega
  rw [e] at h1
  exact h.rowed h1 ⟨rfl, rfl, rfl, by simp, fun j _ hj => heap_setCell_other _ _ _ _ (fun e => hj (by rw [e]))⟩

/-- make([]SeqRange, n, c) -/
theorem made_ps (c : Nat) : (madeCells (Value.agg #[.int .i64 0, .int .i64 0]).cells (c * 2)) = (ps (List.replicate c (0, 0))).toArray := by
  apply Array.ext'
  rw [← zeros_ps]
  rfl
theorem wpList_make_pairs {ops : Array Oper} {rest : List Oper} {o : Oper} {a : Act} {w : World} {Q : Exit → Act → World → Prop} (hg : o.guard = none) (l c : Operand) (t : TypeId) (hop : o.op = Op.makeSlice t l c) (hu : Try.prog.underlying t = some (.slice 28))
    (kl kc : IntKind) (n m : Nat) (hl : a.eval l = .int kl (n : Int)) (hc : a.eval c = .int kc (m : Int)) (hnm : n ≤ m) (hm : m ≤ 1048576)
    (hk : ∀ w', Row w' w.heap.size (List.replicate m (0, 0)) → w.grownBy w' none → wpList Try.prog ops Q rest (a.put o.dst (.slice (some ⟨w.heap.size, 0, none⟩) n m)) w') : wpList Try.prog ops Q (o :: rest) a w := by
  obtain ⟨i0, hi, hz0, hz1, hz2⟩ := info_parts info28
  refine wpList_plain hg fun K hK => ?_
  have hrun := run_make (P := Try.prog) w t 28 i0 _ hu hi hz0 kl kc (n : Int) (m : Int) (by omega) (by omega) (by rw [hz2]; omega) (by omega)
  rw [hz1, Int.toNat_natCast, Int.toNat_natCast, made_ps] at hrun
  unfold Oper.wp
  simp [execOp, hop, hl, hc, hrun, Result.andThen]
  exact hK _ _ (hk _ (heap_alloc_new w _) (World.grownBy_alloc w _ _))
/-- of old memory nothing has turned but the row g and the variable bs -/
structure Fr (w w' : World) (bs g : Nat) : Prop where
  os : w'.os = w.os
  tape : w'.tape = w.tape
  output : w'.output = w.output
  size : w.heap.size ≤ w'.heap.size
  block : ∀ k, k < w.heap.size → k ≠ g → k ≠ bs → w'.heap[k]? = w.heap[k]?
/-- the end: *s = v -/
theorem As.done {w w1 : World} {bs g : Nat} {vs v0 : Value} {r : Int × Int} {C : List (Int × Int)} (h : As w w1 bs g vs v0 r C) (v : Value) :
    (w1.setCell ⟨bs, 0, none⟩ v).cell? ⟨bs, 0, none⟩ = some v ∧ Row (w1.setCell ⟨bs, 0, none⟩ v) g C ∧ Fr w (w1.setCell ⟨bs, 0, none⟩ v) bs g ∧ (w1.setCell ⟨bs, 0, none⟩ v).frozen? ⟨bs, 0, none⟩ = false := by
  have ho : ∀ k, k ≠ bs → (w1.setCell ⟨bs, 0, none⟩ v).heap[k]? = w1.heap[k]? := fun k hk => by rw [heap_setCell_other _ _ _ _ (by simpa using hk)]
  refine ⟨World.cell?_setCell_same _ _ _ h.bcell, by unfold Row; rw [ho g (Ne.symm h.bsg)]; exact h.row, ⟨h.old.os, h.old.tape, h.old.output, by simpa using h.old.size, fun k hk h1 h2 => ?_⟩, by simpa using h.bfree⟩
  rw [ho k h2]
  exact h.old.block k hk (by simpa using h1)
end Go.Proofs.Qxb6603657a.sr

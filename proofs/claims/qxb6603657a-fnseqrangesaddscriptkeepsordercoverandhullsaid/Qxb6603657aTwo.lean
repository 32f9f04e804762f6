import Derived.Test.Qxb6603657aInts
import Derived.Test.Qxb6603657aUnion
import Derived.Deep.QuietTactic
import Derived.BigQuiet
import Derived.Deep.DeepMust
import Derived.Deep.Cut
namespace Go.Proofs.Qxb6603657a.sr
open Go.RowKit
set_option linter.unusedVariables false
/-- block g holds zs, in a row of N -/
def Hf (w : World) (g N : Nat) (zs : List Int) : Prop := ∃ D, IRow w g D ∧ D.length = N ∧ D.take zs.length = zs
section
variable {w : World} {g N : Nat} {zs : List Int}
theorem Hf.kept {w' : World} {r : Option Nat} (h : Hf w g N zs) (hg : w.grownBy w' r) (hne : r ≠ some g) : Hf w' g N zs := by
  obtain ⟨D, h1, h2⟩ := h
  exact ⟨D, h1.kept hg hne, h2⟩
theorem Hf.alloc (h : Hf w g N zs) (o : Obj) : Hf (w.alloc o) g N zs := h.kept (World.grownBy_alloc w o none) (by simp)
theorem Hf.drewN (h : Hf w g N zs) (q : Nat) : Hf (w.drewN q) g N zs := h
theorem Hf.at (h : Hf w g N zs) {k : Nat} (hk : k < zs.length) : w.cell? ⟨g, k, none⟩ = some (.int .i64 (zs.getD k 0)) := by
  obtain ⟨D, h1, h2, h3⟩ := h
  have hl : zs.length ≤ D.length := by
    have := congrArg List.length h3
    rw [List.length_take] at this
    omega
  rw [h1.at (by omega)]
  have e : zs.getD k 0 = (D.take zs.length).getD k 0 := by rw [h3]
  rw [e]
  simp [List.getD, hk]
theorem Hf.free (h : Hf w g N zs) (k : Nat) : w.frozen? ⟨g, k, none⟩ = false := by
  obtain ⟨D, h1, _⟩ := h
  exact h1.free k
theorem Hf.lt (h : Hf w g N zs) : g < w.heap.size := by
  obtain ⟨D, h1, _⟩ := h
  exact h1.lt
/-- the last one is written -/
theorem Hf.setLast {ys : List Int} {y : Int} (h : Hf w g N (ys ++ [y])) (x : Int) : Hf (w.setCell ⟨g, ys.length, none⟩ (.int .i64 x)) g N (ys ++ [x]) ∧ w.grownBy (w.setCell ⟨g, ys.length, none⟩ (.int .i64 x)) (some g) := by
  obtain ⟨D, h1, h2, h3⟩ := h
  have hp := h1.put ys.length x
  refine ⟨⟨_, hp.1, by simpa using h2, ?_⟩, hp.2⟩
  have hl : ys.length + 1 ≤ D.length := by
    have := congrArg List.length h3
    simp at this
    omega
  have h4 : D.take ys.length = ys := by
    have := congrArg (List.take ys.length) h3
    rw [List.take_take] at this
    simpa [Nat.min_eq_left] using this
  rw [show (ys ++ [x]).length = ys.length + 1 by simp, take_set (by omega), h4]
end
theorem alloc_cell (w : World) (v : Value) : (w.alloc (Obj.cells #[v] 2)).cell? ⟨w.heap.size, 0, none⟩ = some v := by
  rw [cell_of_row _ _ 0 _ 2 (0, 0) (heap_alloc_new w _)]; rfl
theorem wpList_append_hf {ops : Array Oper} {rest : List Oper} {o : Oper} {a : Act} {w : World} {Q : Exit → Act → World → Prop} (hgd : o.guard = none) (s x : Operand) (ho : o.op = .call { callee := .builtin .append, args := #[s, x], argTypes := #[22, 22] })
    (g N : Nat) (zs : List Int) (h : Hf w g N zs) (k c sb : Nat) (z : Int) (hs : a.eval s = .slice (some ⟨g, 0, none⟩) k N) (hx : a.eval x = .slice (some ⟨sb, 0, none⟩) 1 c) (hk0 : zs.length = k) (hroom : k + 1 ≤ N)
    (hsrc : w.cell? ⟨sb, 0, none⟩ = some (.int .i64 z))
    (hk : ∀ w', Hf w' g N (zs ++ [z]) → w.grownBy w' (some g) → wpList Try.prog ops Q rest (a.put o.dst (.slice (some ⟨g, 0, none⟩) (k + 1) N)) w') : wpList Try.prog ops Q (o :: rest) a w := by
  obtain ⟨D, h1, h2, h3⟩ := h
  subst hk0
  refine wpList_append_int hgd s x 22 22 2 ho Try.underlying22 Try.underlying22 g D h1 zs.length N c sb z hs hx (by omega) hroom hsrc fun w' hw' hg' => hk w' ⟨_, hw', by simpa using h2, ?_⟩ hg'
  rw [show (zs ++ [z]).length = zs.length + 1 by simp, take_set (by omega), h3]
/-- the model's memory: two rows that read as the pairs X -/
structure Two (w0 w : World) (gA gB N : Nat) (X : List (Int × Int)) : Prop where
  a : Hf w gA N (X.map Prod.fst)
  b : Hf w gB N (X.map Prod.snd)
  ne : gA ≠ gB
  ga : w0.heap.size ≤ gA
  gb : w0.heap.size ≤ gB
  old : w0.grownBy w none
theorem Two.len {w0 w : World} {gA gB N : Nat} {X : List (Int × Int)} (h : Two w0 w gA gB N X) : X.length ≤ N := by
  obtain ⟨D, h1, h2, h3⟩ := h.a
  have := congrArg List.length h3
  simp at this
  omega
theorem grown_none {w0 w w' : World} {g : Nat} (h : w0.grownBy w none) (k : w.grownBy w' (some g)) (hg : w0.heap.size ≤ g) : w0.grownBy w' none :=
  ⟨k.os.trans h.os, k.tape.trans h.tape, k.output.trans h.output, Nat.le_trans h.size k.size, fun j hj hne => by
    rw [k.block j (Nat.lt_of_lt_of_le hj h.size) (by simp; omega)]
    exact h.block j hj hne⟩
theorem Two.aux {w0 w w1 w2 : World} {gA gB N : Nat} {X : List (Int × Int)} {x : Int × Int} (h : Two w0 w gA gB N X) {o1 o2 : Obj} (hA : Hf w1 gA N (X.map Prod.fst ++ [x.1])) (hG : (w.alloc o1).grownBy w1 (some gA))
    (hB : Hf w2 gB N (X.map Prod.snd ++ [x.2])) (hG2 : (w1.alloc o2).grownBy w2 (some gB)) : Two w0 w2 gA gB N (X ++ [x]) :=
  ⟨by rw [List.map_append]; exact (hA.alloc _).kept hG2 (by simpa using Ne.symm h.ne), by rw [List.map_append]; exact hB, h.ne, h.ga, h.gb,
    grown_none (grownBy_trans (grown_none (grownBy_trans h.old (World.grownBy_alloc w o1 none)) hG h.ga) (World.grownBy_alloc w1 o2 none)) hG2 h.gb⟩
theorem Two.drewN {w0 w : World} {gA gB N : Nat} {X : List (Int × Int)} (h : Two w0 w gA gB N X) (q : Nat) : Two w0 (w.drewN q) gA gB N X := ⟨h.a, h.b, h.ne, h.ga, h.gb, grownBy_trans h.old (grownBy_drewN _ _ _)⟩
/-- the first loop's sentence -/
def L1 (P : List (Int × Int)) (F L : Int) (k : Nat) (pl : Bool) (X : List (Int × Int)) : Prop :=
  X.length = k + (if pl then 1 else 0) ∧ ins P F L = X ++ (if pl then P.drop k else ins (P.drop k) F L)

theorem drop_next {P : List (Int × Int)} {k : Nat} (h : k < P.length) : P.drop k = P.getD k (0, 0) :: P.drop (k + 1) := by
  rw [List.drop_eq_getElem_cons h]
  congr 1
  simp [List.getD, h]
theorem L1.put {P : List (Int × Int)} {F L : Int} {k : Nat} {X : List (Int × Int)} (h : L1 P F L k false X) (hk : k < P.length) (hF : F < (P.getD k (0, 0)).1) : L1 P F L (k + 1) true (X ++ [(F, L)] ++ [P.getD k (0, 0)]) := by
  refine ⟨by have := h.1; simp at this ⊢; omega, ?_⟩
  rw [h.2, drop_next hk]
  generalize P.getD k (0, 0) = x at hF ⊢
  obtain ⟨a, b⟩ := x
  simp only at hF
  simp [ins, hF]
theorem L1.go {P : List (Int × Int)} {F L : Int} {k : Nat} {X : List (Int × Int)} {pl : Bool} (h : L1 P F L k pl X) (hk : k < P.length) (hF : pl = false → ¬ F < (P.getD k (0, 0)).1) : L1 P F L (k + 1) pl (X ++ [P.getD k (0, 0)]) := by
  refine ⟨by have := h.1; simp at this ⊢; omega, ?_⟩
  rw [h.2, drop_next hk]
  generalize P.getD k (0, 0) = x at hF ⊢
  obtain ⟨a, b⟩ := x
  simp only at hF
  cases pl with
  | true => simp
  | false => simp [ins, hF rfl]
theorem L1.fin {P : List (Int × Int)} {F L : Int} {X : List (Int × Int)} (h : L1 P F L P.length false X) : ins P F L = X ++ [(F, L)] := by
  rw [h.2]; simp [ins]
theorem L1.fin2 {P : List (Int × Int)} {F L : Int} {X : List (Int × Int)} (h : L1 P F L P.length true X) : ins P F L = X := by
  rw [h.2]; simp
theorem ins_length (P : List (Int × Int)) (F L : Int) : (ins P F L).length = P.length + 1 := by
  induction P with
  | nil => rfl
  | cons x t ih =>
    obtain ⟨a, b⟩ := x
    unfold ins
    split
    · simp
    · simp [ih]
theorem zip_get {fs ls : List Int} {k n : Nat} (h1 : fs.length = n) (h2 : ls.length = n) (hk : k < n) : (fs.zip ls).getD k (0, 0) = (fs.getD k 0, ls.getD k 0) := by
  simp [List.getD, h1, h2, hk]
end Go.Proofs.Qxb6603657a.sr

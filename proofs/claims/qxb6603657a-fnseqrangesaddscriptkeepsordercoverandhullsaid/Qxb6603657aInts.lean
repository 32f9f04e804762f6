import Derived.Test.Qxb6603657aAddMem
/- A []int64 in memory: a block of ints, its spare room too. -/
namespace Go.Proofs.Qxb6603657a.sr
open Go.RowKit
theorem info2 : (Try.prog.info? 2).map (fun i => (i.zero, i.size, i.bytes)) = some (some (.int .i64 0), 1, 8) := by kernel_rfl
def is (D : List Int) : List Value := D.map fun z => .int .i64 z
theorem is_length (D : List Int) : (is D).length = D.length := by simp [is]
theorem is_one (D : List Int) : ∀ u ∈ is D, u.oneCell' = true := by
  intro u hu
  simp only [is, List.mem_map] at hu
  obtain ⟨z, _, rfl⟩ := hu
  rfl
theorem is_get {D : List Int} {k : Nat} (hk : k < D.length) : (is D)[k]? = some (.int .i64 (D.getD k 0)) := by
  simp [is, List.getD, hk]
def IRow (w : World) (g : Nat) (D : List Int) : Prop := w.heap[g]? = some (.cells (is D).toArray 2 (0, 0))
section
variable {w : World} {g : Nat} {D : List Int}
theorem IRow.at (h : IRow w g D) {k : Nat} (hk : k < D.length) : w.cell? ⟨g, k, none⟩ = some (.int .i64 (D.getD k 0)) := by
  rw [cell_of_row w g k _ 2 (0, 0) h, ← is_get hk]; simp
theorem IRow.free (h : IRow w g D) (o : Nat) : w.frozen? ⟨g, o, none⟩ = false := by
  have := h
  unfold IRow at this
  simp [World.frozen?, this]
theorem IRow.lt (h : IRow w g D) : g < w.heap.size := (Array.getElem?_eq_some_iff.1 h).1
theorem IRow.kept {w' : World} {r : Option Nat} (h : IRow w g D) (hg : w.grownBy w' r) (hne : r ≠ some g) : IRow w' g D := by
  unfold IRow
  rw [hg.block g h.lt (fun e => hne e.symm)]
  exact h
theorem IRow.drewN (h : IRow w g D) (q : Nat) : IRow (w.drewN q) g D := h
theorem IRow.put (h : IRow w g D) (k : Nat) (x : Int) : IRow (w.setCell ⟨g, k, none⟩ (.int .i64 x)) g (D.set k x) ∧ w.grownBy (w.setCell ⟨g, k, none⟩ (.int .i64 x)) (some g) := by
  have h1 := heap_setCell_same w g k _ 2 (.int .i64 x) h
  have e : ((is D).toArray.setIfInBounds k (Value.int .i64 x)) = (is (D.set k x)).toArray := by
    apply Array.ext'
    rw [Array.toList_setIfInBounds]
    simp [is, List.map_set]
  rw [e] at h1
  exact ⟨h1, ⟨rfl, rfl, rfl, by simp, fun j _ hj => heap_setCell_other _ _ _ _ (fun e => hj (by rw [e]))⟩⟩
theorem IRow.set (h : IRow w g D) (E : List Int) : IRow (w.setRow g (is E).toArray) g E ∧ w.grownBy (w.setRow g (is E).toArray) (some g) :=
  ⟨setRow_heap w g _ _ 2 _ h, ⟨rfl, rfl, rfl, by simp, fun k _ hk => setRow_other w g k _ (fun e => hk (by rw [e]))⟩⟩
end
theorem set_split {α : Type} (D : List α) (k : Nat) (x : α) (hk : k < D.length) : D.set k x = D.take k ++ [x] ++ D.drop (k + 1) := by
  rw [List.set_eq_take_append_cons_drop, if_pos hk]; simp
theorem take_set {D : List Int} {k : Nat} {x : Int} (hk : k < D.length) : (D.set k x).take (k + 1) = D.take k ++ [x] := by
  rw [set_split _ _ _ hk, List.append_assoc, List.take_append, List.length_take, Nat.min_eq_left (by omega), List.take_of_length_le (by simp; omega)]
  simp
theorem made_is (c : Nat) : (madeCells (Value.int IntKind.i64 0).cells (c * 1)) = (is (List.replicate c 0)).toArray := by
  apply Array.ext'
  apply List.ext_getElem?
  intro j
  have hc : (Value.int IntKind.i64 0).cells = #[.int .i64 0] := rfl
  rw [hc]
  simp only [madeCells, is, Array.getElem?_toList, List.map_replicate]
  simp
  by_cases h : j < c
  · simp [h, Nat.mod_one]
  · simp [h]
section
variable {ops : Array Oper} {rest : List Oper} {o : Oper} {a : Act} {w : World} {Q : Exit → Act → World → Prop}
theorem wpList_make_ints (hg : o.guard = none) (l c : Operand) (t : TypeId) (hop : o.op = Op.makeSlice t l c) (hu : Try.prog.underlying t = some (.slice 2))
    (kl kc : IntKind) (n m : Nat) (hl : a.eval l = .int kl (n : Int)) (hc : a.eval c = .int kc (m : Int)) (hnm : n ≤ m) (hm : m ≤ 1048576)
    (hk : ∀ w', IRow w' w.heap.size (List.replicate m 0) → w.grownBy w' none → wpList Try.prog ops Q rest (a.put o.dst (.slice (some ⟨w.heap.size, 0, none⟩) n m)) w') : wpList Try.prog ops Q (o :: rest) a w := by
  obtain ⟨i0, hi, hz0, hz1, hz2⟩ := info_parts info2
  refine wpList_plain hg fun K hK => ?_
  have hrun := run_make (P := Try.prog) w t 2 i0 _ hu hi hz0 kl kc (n : Int) (m : Int) (by omega) (by omega) (by rw [hz2]; omega) (by omega)
  rw [hz1, Int.toNat_natCast, Int.toNat_natCast, made_is] at hrun
  unfold Oper.wp
  simp [execOp, hop, hl, hc, hrun, Result.andThen]
  exact hK _ _ (hk _ (heap_alloc_new w _) (World.grownBy_alloc w _ _))
theorem run_append_int {w : World} {t tx ty e' : TypeId} (hu : Try.prog.underlying t = some (.slice 2)) (hx : Try.prog.underlying tx = some (.slice e')) {g : Nat} {D : List Int} (h : IRow w g D) (k cap c : Nat) (hfit : k < D.length) (hroom : k + 1 ≤ cap)
    (s : Nat) (x : Int) (hsrc : w.cell? ⟨s, 0, none⟩ = some (.int .i64 x)) :
    (Builtin.append_ #[t, tx] ty #[.slice (some ⟨g, 0, none⟩) k cap, .slice (some ⟨s, 0, none⟩) 1 c]).run Try.prog w = .ok (.slice (some ⟨g, 0, none⟩) (k + 1) cap) (w.setRow g (is (D.set k x)).toArray) := by
  obtain ⟨i0, hi, hz0, hz1, hz2⟩ := info_parts info2
  have hf := run_firstCells_some (P := Try.prog) w 1 1 ⟨s, 0, none⟩ 1 c [.int .i64 x] rfl (fun j v hv => by
    match j with
    | 0 => simp at hv; subst hv; rw [Addr.add_lit]; exact hsrc
    | j + 1 => simp at hv)
  have hs := run_storeCells_at Try.prog g k 2 [.int .i64 x] 0 (is D).toArray w h (by simp [is_length]; omega) (by simp [Value.oneCell'])
  simp only [Nat.add_zero] at hs
  have e : (is (D.set k x)).toArray = ((is D).take k ++ [Value.int .i64 x] ++ (is D).drop (k + 1)).toArray := by
    rw [← set_split _ _ _ (by rw [is_length]; exact hfit)]
    simp [is, List.map_set]
  rw [e]
  simp [Builtin.append_, run_underlying hu, run_underlying hx, sizeOf, typeInfo, hi, hz1, Builtin.lenOf, hroom, hf, Addr.add_lit]
  simp at hs
  rw [hs]
  rfl
theorem wpList_append_int (hgd : o.guard = none) (s x : Operand) (t tx e' : TypeId) (ho : o.op = .call { callee := .builtin .append, args := #[s, x], argTypes := #[t, tx] }) (hu : Try.prog.underlying t = some (.slice 2)) (hux : Try.prog.underlying tx = some (.slice e'))
    (g : Nat) (D : List Int) (h : IRow w g D) (k cap c sb : Nat) (z : Int) (hs : a.eval s = .slice (some ⟨g, 0, none⟩) k cap) (hx : a.eval x = .slice (some ⟨sb, 0, none⟩) 1 c) (hfit : k < D.length) (hroom : k + 1 ≤ cap)
    (hsrc : w.cell? ⟨sb, 0, none⟩ = some (.int .i64 z))
    (hk : ∀ w', IRow w' g (D.set k z) → w.grownBy w' (some g) → wpList Try.prog ops Q rest (a.put o.dst (.slice (some ⟨g, 0, none⟩) (k + 1) cap)) w') : wpList Try.prog ops Q (o :: rest) a w := by
  refine wpList_plain hgd fun K hK => ?_
  have hrun := run_append_int (ty := o.type) hu hux h k cap c hfit hroom sb z hsrc
  unfold Oper.wp execOp
  simp only [ho, resolve, invoke, builtin, Sem.run_bind, Sem.run_pure, Result.andThen_ok, List.map_toArray, List.map_cons, List.map_nil, hs, hx, hrun]
  exact hK _ _ (hk _ (h.set _).1 (h.set _).2)
end
/-- WHAT A SLICE OF INTS READS AS -/
def Rd (w : World) (a : Option Addr) (n : Nat) (zs : List Int) : Prop :=
  zs.length = n ∧ (0 < n → ∃ b off, a = some ⟨b, off, none⟩ ∧ ∀ j, j < n → w.cell? ⟨b, off + j, none⟩ = some (.int .i64 (zs.getD j 0)))
theorem Rd.len {w : World} {a : Option Addr} {n : Nat} {zs : List Int} (h : Rd w a n zs) : zs.length = n := h.1
end Go.Proofs.Qxb6603657a.sr

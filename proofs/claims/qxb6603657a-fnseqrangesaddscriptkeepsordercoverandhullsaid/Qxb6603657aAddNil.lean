import Derived.Test.Qxb6603657aAddMem
namespace Go.Proofs.Qxb6603657a.sr
open Go.RowKit
/-- sort.Search of nothing -/
theorem search_zero (b1 b2 : Nat) (w : World) :
    Calls Try.prog 33 #[.int .i64 0, .func (.func 34) #[] #[.pointer (some ⟨b1, 0, none⟩), .pointer (some ⟨b2, 0, none⟩)]] w fun e w' => e = .returned (.int .i64 0) ∧ w' = w := by
  go_enter Try.func33, Try.ntmps33
  go_wp2
  refine wp_loop_rounds 1 ?_
  rw [rounds_succ]
  go_wp2
  go_ret
  exact ⟨rfl, rfl⟩
theorem As.nil {w w2 : World} {bs g2 q : Nat} {v0 : Value} {r : Int × Int} {D : List (Int × Int)} (hb : w.cell? ⟨bs, 0, none⟩ = some v0) (hf : w.frozen? ⟨bs, 0, none⟩ = false)
    (hG : (((w.alloc (Obj.cells #[Value.int IntKind.i64 r.1, Value.int IntKind.i64 r.2] 28)).alloc (Obj.cells #[v0] 49)).drewN q).grownBy w2 none) (hR : Row w2 g2 D) (hg2 : w.heap.size + 2 ≤ g2) : As w w2 bs g2 v0 v0 r D := by
  have hlt := World.block_lt_of_cell? w ⟨bs, 0, none⟩ hb
  have hlt' : bs < w.heap.size := hlt
  have e1 : (w.alloc (Obj.cells #[Value.int IntKind.i64 r.1, Value.int IntKind.i64 r.2] 28)).heap.size = w.heap.size + 1 := by simp
  have e2 : (((w.alloc (Obj.cells #[Value.int IntKind.i64 r.1, Value.int IntKind.i64 r.2] 28)).alloc (Obj.cells #[v0] 49)).drewN q).heap.size = w.heap.size + 2 := by simp
  have ho : ∀ k, k < w.heap.size → w2.heap[k]? = w.heap[k]? := fun k hk => by
    rw [hG.block k (by rw [e2]; omega) (by simp)]
    show ((w.alloc _).alloc _).heap[k]? = _
    rw [Below.heap_alloc _ _ _ (by rw [e1]; omega), Below.heap_alloc _ _ _ hk]
  refine ⟨?_, ?_, hR, ?_, ?_, ⟨hG.os, hG.tape, hG.output, by have := hG.size; rw [e2] at this; omega, fun k hk _ => ho k hk⟩, hlt, by omega, by omega⟩
  · unfold Row
    rw [hG.block _ (by rw [e2]; omega) (by simp)]
    show ((w.alloc _).alloc _).heap[w.heap.size]? = _
    rw [Below.heap_alloc _ _ _ (by rw [e1]; omega)]
    exact heap_alloc_new w _
  · rw [hG.block _ (by rw [e2]; omega) (by simp)]
    have := heap_alloc_new (w.alloc (Obj.cells #[Value.int IntKind.i64 r.1, Value.int IntKind.i64 r.2] 28)) (Obj.cells #[v0] 49)
    rw [e1] at this
    exact this
  · rw [World.cell?_of_block (w := w) (ho bs hlt')]; exact hb
  · rw [World.frozen?_of_block (w := w) (ho bs hlt')]; exact hf
theorem wpList_copy_nilsrc {ops : Array Oper} {rest : List Oper} {o : Oper} {a : Act} {w : World} {Q : Exit → Act → World → Prop} (hgd : o.guard = none) (d s : Operand) (dT sT : TypeId) (ho : o.op = .call { callee := .builtin .copy, args := #[d, s], argTypes := #[dT, sT] }) (hu : Try.prog.underlying dT = some (.slice 28))
    (ad : Addr) (dLen dCap : Nat) (hd : a.eval d = .slice (some ad) dLen dCap) (hs : a.eval s = .slice none 0 0)
    (hk : wpList Try.prog ops Q rest (a.put o.dst (goInt 0)) w) : wpList Try.prog ops Q (o :: rest) a w := by
  obtain ⟨i0, hi, hz0, hz1, hz2⟩ := info_parts info28
  refine wpList_plain hgd fun K hK => ?_
  have hrun : (Builtin.copy_ #[dT, sT] o.type #[.slice (some ad) dLen dCap, .slice none 0 0]).run Try.prog w = .ok (goInt 0) w := by
    simp [Builtin.copy_, run_underlying hu, Builtin.lenOf, sizeOf, typeInfo, hi, run_firstCells_none, storeCells]
  unfold Oper.wp
  simp [execOp, ho, resolve, invoke, builtin, hd, hs, hrun, Result.andThen]
  exact hK _ _ hk
set_option maxRecDepth 100000 in
set_option maxHeartbeats 3200000 in
theorem add_nil (bs : Nat) (F L : Int) (w : World) (h0 : w.cell? ⟨bs, 0, none⟩ = some (.slice none 0 0)) (hf0 : w.frozen? ⟨bs, 0, none⟩ = false) :
    Calls Try.prog 24 #[.pointer (some ⟨bs, 0, none⟩), .agg #[.int .i64 F, .int .i64 L]] w fun e w' => ∃ (m g' cap' : Nat) (C' : List (Int × Int)), e = .returned (.tuple #[]) ∧ w'.cell? ⟨bs, 0, none⟩ = some (.slice (some ⟨g', 0, none⟩) m cap') ∧ w'.frozen? ⟨bs, 0, none⟩ = false ∧
      Row w' g' C' ∧ C'.length = cap' ∧ m ≤ cap' ∧ C'.take m = [(F, L)] ∧ Fr w w' bs g' ∧ w.heap.size ≤ g' ∧ cap' ≤ 2048 ∧ bs ≠ g' := by
  have hbs : bs < w.heap.size := World.block_lt_of_cell? w ⟨bs, 0, none⟩ h0
  go_enter Try.func24, Try.ntmps24
  go_wp2_with fail
  refine (search_zero _ _ _).mono ?_
  rintro e w' ⟨rfl, rfl⟩
  go_wp2
  refine wp_loop_rounds 1 ?_
  rw [rounds_succ]
  go_wp2
  go_quiet (fail)
  have H0 : Hid (w.cell? ⟨bs, 0, none⟩ = some (.slice none 0 0)) := h0
  have HF0 : Hid (w.frozen? ⟨bs, 0, none⟩ = false) := hf0
  go_wp2_with (first
    | (at_make; refine wpList_make_pairs rfl _ _ 49 rfl Try.underlying49 _ _ 0 1 rfl rfl (by omega) (by omega) ?_; intro w2 hR2 hG2; have hR2' : Row w2 (w.heap.size + 1 + 1) (List.replicate 1 (0, 0)) := (by have hx := hR2; simpa using hx); have A2 := As.nil (r := (F, L)) H0.out HF0.out hG2 hR2' (Nat.le_refl _); obtain ⟨e1, e2, e3, e4, e5, e6⟩ := A2.facts)
    | (with_reducible refine at_copy ?_; refine wpList_copy_nilsrc rfl (.tmp 110) (.tmp 111) 49 49 rfl Try.underlying49 _ _ _ rfl rfl ?_))
  have A4 := A2.sets (.slice (some ⟨w.heap.size + 1 + 1, 0, none⟩) 0 1)
  have hWg := A4.row.lt
  have hsz : w2.heap.size = (w2.setCell ⟨w.heap.size + 1, 0, none⟩ (Value.slice (some ⟨w.heap.size + 1 + 1, 0, none⟩) 0 1)).heap.size := by simp
  rw [hsz]
  clear hsz hR2 hR2' hG2 A2 e1 e2 e3 e4 e5 e6
  generalize (w2.setCell ⟨w.heap.size + 1, 0, none⟩ (Value.slice (some ⟨w.heap.size + 1 + 1, 0, none⟩) 0 1)) = W4 at A4 hWg ⊢
  refine (replace_any (w.heap.size + 1 + 1) W4.heap.size 0 1 0 0 _ (F, L) (W4.alloc (Obj.cells #[Value.int IntKind.i64 F, Value.int IntKind.i64 L] 28)) (A4.alloc _).row (heap_alloc_new W4 _) (by omega) rfl (by omega) (by omega) (by omega) (fun _ => by omega) (by omega)).mono ?_
  rintro e w' ⟨m, C', rfl, hm, hR', hC', hT', hG'⟩
  have A5 := (A4.alloc _).rowed hR' hG'
  have hbc := A5.bcell
  have hbf := A5.bfree
  have HT' : Hid _ := hT'
  have HC' : Hid _ := hC'
  clear hT' hC'
  go_wp2
  go_end0
  refine ⟨m, w.heap.size + 1 + 1, 1, C', rfl, (A5.done _).1, (A5.done _).2.2.2, (A5.done _).2.1, HC'.out, hm, HT'.out.trans ?_, (A5.done _).2.2.1, by omega, by omega, A5.bsg⟩
  simp
end Go.Proofs.Qxb6603657a.sr

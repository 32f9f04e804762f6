import Derived.Test.Qxb6603657aModel
namespace Go.Proofs.Qxb6603657a.sr
open Go.RowKit
set_option linter.unusedVariables false
set_option maxHeartbeats 1000000 in
set_option maxRecDepth 100000 in
theorem union_zero (a1 a2 : Option Addr) (c1 c2 : Nat) (F L : Int) (w : World) :
    Calls Try.prog 11 #[.slice a1 0 c1, .slice a2 0 c2, .int .i64 F, .int .i64 L] w fun e w' => Un w [(F, L)] e w' := by
  go_enter Try.func11, Try.ntmps11
  go_wp2_with (at_make; first | (refine wpList_make_ints rfl _ (.tmp 22) 22 rfl Try.underlying22 _ _ 0 1 rfl rfl (by omega) (by omega) ?_; intro w1 hI1 hG1) | (refine wpList_make_ints rfl _ (.tmp 25) 22 rfl Try.underlying22 _ _ 0 1 rfl rfl (by omega) (by omega) ?_; intro w2 hI2 hG2))
  have T0 : Hid (Two w w2 w.heap.size w1.heap.size 1 []) := Two.start hI1 hG1 hI2 hG2
  clear hI1 hG1 hI2 hG2
  refine wp_loop_rounds 1 ?_
  rw [rounds_succ]
  go_wp2_with (first
    | (at_make; first | (refine wpList_make_ints rfl _ (.tmp 75) 22 rfl Try.underlying22 _ _ 0 1 rfl rfl (by omega) (by omega) ?_; intro w5 hI5 hG5) | (refine wpList_make_ints rfl _ (.tmp 78) 22 rfl Try.underlying22 _ _ 0 1 rfl rfl (by omega) (by omega) ?_; intro w6 hI6 hG6; have T1 := Two.start hI5 hG5 hI6 hG6; have g1 := cell_old T1.old T4.out.a.lt (T4.out.at1 (k := 0) (by simp))))
    | (at_builtin; first
       | (refine wpList_append_hf rfl (.tmp 66) (.tmp 68) rfl w.heap.size 1 [] (T0.out.a.alloc _) 0 1 w2.heap.size F rfl rfl rfl (by omega) (alloc_cell _ _) ?_; intro w3 hA3 hG3)
       | (refine wpList_append_hf rfl (.tmp 70) (.tmp 72) rfl w1.heap.size 1 [] (T0.out.bA hG3 _) 0 1 w3.heap.size L rfl rfl rfl (by omega) (alloc_cell _ _) ?_; intro w4 hB4 hG4; have T4 : Hid (Two w w4 w.heap.size w1.heap.size 1 [(F, L)]) := T0.out.aux (x := (F, L)) hA3 hG3 hB4 hG4; clear hA3 hG3 hB4 hG4)
       | (refine wpList_append_hf rfl (.tmp 80) (.tmp 84) rfl w4.heap.size 1 [] (T1.a.alloc _) 0 1 w6.heap.size F rfl rfl rfl (by omega) (alloc_cell _ _) ?_; intro w7 hA7 hG7; have g2 := cell_old (T1.oldA hG7) T4.out.b.lt (T4.out.at2 (k := 0) (by simp)))
       | (refine wpList_append_hf rfl (.tmp 86) (.tmp 90) rfl w5.heap.size 1 [] (T1.bA hG7 _) 0 1 w7.heap.size L rfl rfl rfl (by omega) (alloc_cell _ _) ?_; intro w8 hB8 hG8; have T8 : Hid (Two w4 w8 w4.heap.size w5.heap.size 1 [(F, L)]) := T1.aux (x := (F, L)) hA7 hG7 hB8 hG8; clear hA7 hG7 hB8 hG8)))
  refine wp_loop_rounds 1 ?_
  rw [rounds_succ]
  go_wp2
  go_ret2
  refine ⟨w4.heap.size, w5.heap.size, 0, 1, 1, rfl, rfl, fun j hj => ?_, grownBy_trans T4.out.old T8.out.old⟩
  rw [Nat.zero_add]
  exact ⟨T8.out.at1 (by simpa using hj), T8.out.at2 (by simpa using hj)⟩
end Go.Proofs.Qxb6603657a.sr

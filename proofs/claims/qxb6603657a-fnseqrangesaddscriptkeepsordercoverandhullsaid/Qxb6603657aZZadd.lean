import Derived.Test.Qxb6603657aUnion
import Derived.Test.Qxb6603657aAddNil
namespace Go.Proofs.Qxb6603657a.sr
open Go.RowKit
theorem V.pair {P : List (Int × Int)} (h : V P) : ∀ i j, i < j → j < P.length → (P.getD i (0, 0)).2 < (P.getD j (0, 0)).1 - 1 := by
  induction P with
  | nil => intro i j _ hj; simp at hj
  | cons x t ih =>
    obtain ⟨a, b⟩ := x
    intro i j hij hj
    obtain ⟨j, rfl⟩ : ∃ k, j = k + 1 := ⟨j - 1, by omega⟩
    simp at hj
    cases i with
    | zero =>
      have := h.gap _ (getD_mem hj)
      simpa using this
    | succ i => simpa using ih h.tail i j (by omega) hj
theorem V.mono {C : List (Int × Int)} {n : Nat} {F : Int} (h : V (C.take n)) (hn : n ≤ C.length) : ∀ i j, i ≤ j → j < n → qB F (C.getD i (0, 0)).2 = true → qB F (C.getD j (0, 0)).2 = true := by
  intro i j hij hj hq
  by_cases e : i = j
  · subst e; exact hq
  · have h1 := h.pair i j (by omega) (by rw [List.length_take]; omega)
    rw [getD_take (by omega), getD_take hj] at h1
    have h2 := h.all ((C.take n).getD j (0, 0)) (getD_mem (by rw [List.length_take]; omega))
    rw [getD_take hj] at h2
    simp only [qB, decide_eq_true_eq] at hq ⊢
    omega
/-- the world in which add is called -/
theorem two_alloc (w : World) (A : Obj) (v : Value) : w.grownBy ((w.alloc A).alloc (Obj.cells #[v] 49)) none ∧ ((w.alloc A).alloc (Obj.cells #[v] 49)).cell? ⟨w.heap.size + 1, 0, none⟩ = some v ∧
    ((w.alloc A).alloc (Obj.cells #[v] 49)).frozen? ⟨w.heap.size + 1, 0, none⟩ = false ∧ ((w.alloc A).alloc (Obj.cells #[v] 49)).heap.size = w.heap.size + 2 := by
  have e1 : (w.alloc A).heap.size = w.heap.size + 1 := by simp
  have hold : w.grownBy ((w.alloc A).alloc (Obj.cells #[v] 49)) none :=
    ⟨rfl, rfl, rfl, by simp; omega, fun k hk _ => by rw [Below.heap_alloc _ _ _ (by rw [e1]; omega), Below.heap_alloc _ _ _ hk]⟩
  have hb : ((w.alloc A).alloc (Obj.cells #[v] 49)).heap[w.heap.size + 1]? = some (.cells #[v] 49 (0, 0)) := by
    have := heap_alloc_new (w.alloc A) (Obj.cells #[v] 49)
    rw [e1] at this
    exact this
  refine ⟨hold, ?_, ?_, by simp⟩
  · rw [cell_of_row _ _ 0 _ 49 (0, 0) hb]; rfl
  · generalize ((w.alloc A).alloc (Obj.cells #[v] 49)) = W at hb
    simp [World.frozen?, hb]
theorem Fr.grown {w W w' : World} {bs g : Nat} (h : Fr W w' bs g) (hw : w.grownBy W none) (hb : w.heap.size ≤ bs) : w.grownBy w' (some g) :=
  ⟨h.os.trans hw.os, h.tape.trans hw.tape, h.output.trans hw.output, Nat.le_trans hw.size h.size, fun k hk hne => by
    rw [h.block k (Nat.lt_of_lt_of_le hk hw.size) (by simpa using hne) (by omega)]
    exact hw.block k hk (by simp)⟩
set_option maxHeartbeats 400000 in
/-- ZZadd -/
theorem zzadd_some (g n cap : Nat) (C : List (Int × Int)) (F L : Int) (w : World) (hR : Row w g C) (hC : C.length = cap) (hnc : n ≤ cap) (hn : n ≤ 1024) (hcap : cap ≤ 8192) (hV : V (C.take n))
    (hF : -9223372036854775808 < F) (hFL : F ≤ L) (hL : L ≤ 9223372036854775807) :
    Calls Try.prog 10 #[.slice (some ⟨g, 0, none⟩) n cap, .agg #[.int .i64 F, .int .i64 L]] w fun e w' => ∃ (m g' cap' : Nat) (C' : List (Int × Int)), e = .returned (.slice (some ⟨g', 0, none⟩) m cap') ∧ Row w' g' C' ∧ C'.length = cap' ∧ m ≤ cap' ∧
      C'.take m = capU (U (C.take n) F L) ∧ w.grownBy w' (some g') ∧ ((g' = g ∧ cap' = cap) ∨ (w.heap.size ≤ g' ∧ cap' ≤ 2048)) := by
  have hgl := hR.lt
  have HR : Hid (Row w g C) := hR
  have HV : Hid (V (C.take n)) := hV
  have HC : Hid (C.length = cap) := hC
  clear hR hV hC
  go_enter Try.func10, Try.ntmps10
  go_wp2_with fail
  obtain ⟨t1, t2, t3, t4⟩ := two_alloc w (Obj.cells #[Value.int IntKind.i64 F, Value.int IntKind.i64 L] 28) (Value.slice (some ⟨g, 0, none⟩) n cap)
  generalize ((w.alloc (Obj.cells #[Value.int IntKind.i64 F, Value.int IntKind.i64 L] 28)).alloc (Obj.cells #[Value.slice (some ⟨g, 0, none⟩) n cap] 49)) = W at t1 t2 t3 t4 ⊢
  have hb : ∀ k, k < n → -9223372036854775808 < (C.getD k (0, 0)).1 ∧ (C.getD k (0, 0)).1 ≤ 9223372036854775807 := fun k hk => by
    have := HV.out.all ((C.take n).getD k (0, 0)) (getD_mem (by rw [List.length_take, HC.out]; omega))
    rw [getD_take hk] at this
    omega
  refine (add_some (w.heap.size + 1) g n cap C F L W t2 t3 (HR.out.kept t1 (by simp)) (by omega) HC.out hnc hn hcap hF (by omega) (by omega) hL hb (HV.out.mono (by rw [HC.out]; exact hnc))).mono ?_
  rintro e w' ⟨i, j, m, g', cap', C', rfl, hix, hcell, hfr, hrow, hlen, hm, htk, hFr, hor, hbg⟩
  have HRS : Hid (C'.take m = capU (U (C.take n) F L)) := by
    unfold Hid
    rw [htk]
    exact res_eq i j _ F L HV.out (by rw [List.length_take]; omega) hFL hix
  have HX : Hid (Row w' g' C' ∧ C'.length = cap' ∧ m ≤ cap' ∧ w.grownBy w' (some g') ∧ ((g' = g ∧ cap' = cap) ∨ (w.heap.size ≤ g' ∧ cap' ≤ 2048))) := by
    refine ⟨hrow, hlen, hm, hFr.grown t1 (by omega), ?_⟩
    rcases hor with h | h
    · exact .inl h
    · exact .inr ⟨by omega, h.2⟩
  clear hb t1 t2 t3 hix hfr hrow hlen hm htk hFr hor hbg
  go_wp2
  go_ret
  exact ⟨m, g', cap', C', rfl, HX.out.1, HX.out.2.1, HX.out.2.2.1, HRS.out, HX.out.2.2.2.1, HX.out.2.2.2.2⟩
set_option maxHeartbeats 400000 in
theorem zzadd_nil (F L : Int) (w : World) :
    Calls Try.prog 10 #[.slice none 0 0, .agg #[.int .i64 F, .int .i64 L]] w fun e w' => ∃ (m g' cap' : Nat) (C' : List (Int × Int)), e = .returned (.slice (some ⟨g', 0, none⟩) m cap') ∧ Row w' g' C' ∧ C'.length = cap' ∧ m ≤ cap' ∧
      C'.take m = capU (U [] F L) ∧ w.grownBy w' none ∧ w.heap.size ≤ g' ∧ cap' ≤ 2048 := by
  go_enter Try.func10, Try.ntmps10
  go_wp2_with fail
  obtain ⟨t1, t2, t3, t4⟩ := two_alloc w (Obj.cells #[Value.int IntKind.i64 F, Value.int IntKind.i64 L] 28) (Value.slice none 0 0)
  generalize ((w.alloc (Obj.cells #[Value.int IntKind.i64 F, Value.int IntKind.i64 L] 28)).alloc (Obj.cells #[Value.slice none 0 0] 49)) = W at t1 t2 t3 t4 ⊢
  refine (add_nil (w.heap.size + 1) F L W t2 t3).mono ?_
  rintro e w' ⟨m, g', cap', C', rfl, hcell, hfr, hrow, hlen, hm, htk, hFr, hgs, hcp, hbg⟩
  have HX : Hid (Row w' g' C' ∧ C'.length = cap' ∧ m ≤ cap' ∧ C'.take m = capU (U [] F L) ∧ w.grownBy w' none ∧ w.heap.size ≤ g' ∧ cap' ≤ 2048) := by
    have hg := hFr.grown t1 (by omega)
    exact ⟨hrow, hlen, hm, htk, ⟨hg.os, hg.tape, hg.output, hg.size, fun k hk _ => hg.block k hk (by simp; omega)⟩, by omega, hcp⟩
  clear t1 t2 t3 hfr hrow hlen hm htk hFr hgs hcp hbg
  go_wp2
  go_ret
  exact ⟨m, g', cap', C', rfl, HX.out⟩
end Go.Proofs.Qxb6603657a.sr

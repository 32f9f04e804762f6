import Derived.Test.Qxb6603657aTwo
import Derived.Deep.DeepCutAuto
namespace Go.Proofs.Qxb6603657a.sr
open Go.RowKit
set_option linter.unusedVariables false
theorem Two.start {w w1 w2 : World} {N : Nat} (h1 : IRow w1 w.heap.size (List.replicate N 0)) (g1 : w.grownBy w1 none) (h2 : IRow w2 w1.heap.size (List.replicate N 0)) (g2 : w1.grownBy w2 none) : Two w w2 w.heap.size w1.heap.size N [] := by
  have := h1.lt
  exact ⟨⟨_, h1.kept g2 (by simp), by simp, by simp⟩, ⟨_, h2, by simp, by simp⟩, by omega, Nat.le_refl _, g1.size, grownBy_trans g1 g2⟩
theorem cell_old {w0 w : World} {b o : Nat} {v : Option Value} (h : w0.grownBy w none) (hb : b < w0.heap.size) (hc : w0.cell? ⟨b, o, none⟩ = v) : w.cell? ⟨b, o, none⟩ = v := by
  rw [World.cell?_of_block (w := w0) (h.block b hb (by simp))]; exact hc
section
variable {w0 w w1 : World} {gA gB N : Nat} {X : List (Int × Int)} {o1 o2 : Obj} {zs : List Int}
theorem Two.oldA (h : Two w0 w gA gB N X) (hG : (w.alloc o1).grownBy w1 (some gA)) : w0.grownBy w1 none := grown_none (grownBy_trans h.old (World.grownBy_alloc w o1 none)) hG h.ga
theorem Two.bA (h : Two w0 w gA gB N X) (hG : (w.alloc o1).grownBy w1 (some gA)) (o2 : Obj) : Hf (w1.alloc o2) gB N (X.map Prod.snd) := ((h.b.alloc o1).kept hG (by simpa using h.ne)).alloc o2
end
/-- what the model leaves: two slices that read as G -/
def Un (w : World) (G : List (Int × Int)) (e : Ending) (w' : World) : Prop := ∃ (b1 b2 o m c' : Nat), e = .returned (.tuple #[.slice (some ⟨b1, o, none⟩) m c', .slice (some ⟨b2, o, none⟩) m c']) ∧ G.length = m ∧ (∀ k, k < m → w'.cell? ⟨b1, o + k, none⟩ = some (.int .i64 (G.getD k (0, 0)).1) ∧ w'.cell? ⟨b2, o + k, none⟩ = some (.int .i64 (G.getD k (0, 0)).2)) ∧ w.grownBy w' none
theorem map_get1 (X : List (Int × Int)) (k : Nat) : (X.map Prod.fst).getD k 0 = (X.getD k (0, 0)).1 := by
  simp only [List.getD, List.getElem?_map]
  cases X[k]? <;> rfl
theorem map_get2 (X : List (Int × Int)) (k : Nat) : (X.map Prod.snd).getD k 0 = (X.getD k (0, 0)).2 := by
  simp only [List.getD, List.getElem?_map]
  cases X[k]? <;> rfl
theorem Two.at1 {w0 w : World} {gA gB N : Nat} {X : List (Int × Int)} (h : Two w0 w gA gB N X) {k : Nat} (hk : k < X.length) : w.cell? ⟨gA, k, none⟩ = some (.int .i64 (X.getD k (0, 0)).1) := by
  rw [h.a.at (by simpa using hk), map_get1]
theorem Two.at2 {w0 w : World} {gA gB N : Nat} {X : List (Int × Int)} (h : Two w0 w gA gB N X) {k : Nat} (hk : k < X.length) : w.cell? ⟨gB, k, none⟩ = some (.int .i64 (X.getD k (0, 0)).2) := by
  rw [h.b.at (by simpa using hk), map_get2]
theorem swp_head {A : List (Int × Int)} (h : 0 < A.length) : swp A = [] ++ sw (A.getD 0 (0, 0)).1 (A.getD 0 (0, 0)).2 (A.drop 1) := by
  cases A with
  | nil => simp at h
  | cons x t => obtain ⟨a, b⟩ := x; rfl
/-- the second loop's sentence -/
def L2 (A : List (Int × Int)) (k : Nat) (Y0 : List (Int × Int)) (c d : Int) : Prop := swp A = Y0 ++ sw c d (A.drop k)
theorem L2.join {A : List (Int × Int)} {k : Nat} {Y0 : List (Int × Int)} {c d f l : Int} (h : L2 A k Y0 c d) (hk : k < A.length) (he : A.getD k (0, 0) = (f, l)) (hj : f - 1 ≤ d) : L2 A (k + 1) Y0 c (maxI d l) := by
  unfold L2 at h ⊢
  rw [h, drop_next hk, he]
  congr 1
  rw [sw, if_pos hj]
theorem L2.next {A : List (Int × Int)} {k : Nat} {Y0 : List (Int × Int)} {c d f l : Int} (h : L2 A k Y0 c d) (hk : k < A.length) (he : A.getD k (0, 0) = (f, l)) (hj : ¬ f - 1 ≤ d) : L2 A (k + 1) (Y0 ++ [(c, d)]) f l := by
  unfold L2 at h ⊢
  rw [h, drop_next hk, he, sw, if_neg hj]
  simp
theorem L2.fin {A : List (Int × Int)} {Y0 : List (Int × Int)} {c d : Int} (h : L2 A A.length Y0 c d) : swp A = Y0 ++ [(c, d)] := by
  unfold L2 at h
  rw [h]
  simp [sw]
theorem Two.last {w0 w : World} {gA gB N : Nat} {Y0 : List (Int × Int)} {c d : Int} (h : Two w0 w gA gB N (Y0 ++ [(c, d)])) (l : Int) : Two w0 (w.setCell ⟨gB, Y0.length, none⟩ (.int .i64 l)) gA gB N (Y0 ++ [(c, l)]) := by
  have hb := h.b
  rw [List.map_append] at hb
  have h2 := Hf.setLast (ys := Y0.map Prod.snd) (y := d) hb l
  rw [List.length_map] at h2
  refine ⟨?_, by rw [List.map_append]; exact h2.1, h.ne, h.ga, h.gb, grown_none h.old h2.2 h.gb⟩
  have ha := h.a.kept h2.2 (by simpa using Ne.symm h.ne)
  rw [List.map_append] at ha ⊢
  exact ha
theorem Two.last' {w0 w : World} {gA gB N m : Nat} {Y0 : List (Int × Int)} {c d : Int} (h : Two w0 w gA gB N (Y0 ++ [(c, d)])) (hm : Y0.length = m) (l : Int) : Two w0 (w.setCell ⟨gB, m, none⟩ (.int .i64 l)) gA gB N (Y0 ++ [(c, l)]) := by
  subst hm; exact h.last l
theorem Two.shift {w0 w : World} {gA gB N : Nat} {Y : List (Int × Int)} (h : Two w0 w gA gB N Y) (hY : 1024 < Y.length) {y : Int} (hy : y = (Y.getD 0 (0, 0)).1) :
    (∀ j, j < Y.length - 1 → (w.setCell ⟨gA, 1, none⟩ (.int .i64 y)).cell? ⟨gA, 1 + j, none⟩ = some (.int .i64 ((capU Y).getD j (0, 0)).1) ∧ (w.setCell ⟨gA, 1, none⟩ (.int .i64 y)).cell? ⟨gB, 1 + j, none⟩ = some (.int .i64 ((capU Y).getD j (0, 0)).2)) ∧
    (capU Y).length = Y.length - 1 ∧ w0.grownBy (w.setCell ⟨gA, 1, none⟩ (.int .i64 y)) none := by
  have hB : ∀ j, j < Y.length → (w.setCell ⟨gA, 1, none⟩ (.int .i64 y)).cell? ⟨gB, j, none⟩ = some (.int .i64 (Y.getD j (0, 0)).2) := fun j hj => by
    rw [World.cell?_of_block (w := w) (heap_setCell_other _ _ _ _ (by simpa using Ne.symm h.ne))]
    exact h.at2 hj
  obtain ⟨D, h1, h2, h3⟩ := h.a
  have hp := h1.put 1 y
  have hl := h.len
  have hA : ∀ j, j < Y.length → (w.setCell ⟨gA, 1, none⟩ (.int .i64 y)).cell? ⟨gA, j, none⟩ = some (.int .i64 (if j = 1 then y else (Y.getD j (0, 0)).1)) := fun j hj => by
    rw [hp.1.at (by rw [List.length_set]; omega)]
    have h4 := h.a.at (k := j) (by simpa using hj)
    rw [h1.at (by omega), map_get1] at h4
    by_cases e : j = 1
    · subst e
      rw [if_pos rfl]
      simp [List.getD, show 1 < D.length by omega]
    · rw [if_neg e, ← h4]
      simp [List.getD, Ne.symm e]
  match Y with
  | [] => simp at hY
  | [_] => simp at hY
  | (a, b) :: (c, d) :: t =>
    have hc : capU ((a, b) :: (c, d) :: t) = (a, d) :: t := by unfold capU; rw [if_pos hY]; rfl
    rw [hc]
    refine ⟨fun j hj => ?_, by simp, grown_none h.old hp.2 h.ga⟩
    have e1 := hA (1 + j) (by simp at hj ⊢; omega)
    have e2 := hB (1 + j) (by simp at hj ⊢; omega)
    rw [e1, e2]
    simp only [List.getD_cons_zero] at hy
    subst hy
    cases j with
    | zero => exact ⟨rfl, rfl⟩
    | succ j =>
      rw [if_neg (by omega), show 1 + (j + 1) = j + 1 + 1 by omega]
      exact ⟨rfl, rfl⟩
set_option maxHeartbeats 1000000 in
set_option maxRecDepth 100000 in
theorem union_any (b1 o1 b2 o2 n c1 c2 : Nat) (fs ls : List Int) (F L : Int) (w : World) (hn : n ≤ 1024) (hl1 : fs.length = n) (hl2 : ls.length = n) (hp : 0 < n)
    (hc1 : ∀ j, j < n → w.cell? ⟨b1, o1 + j, none⟩ = some (.int .i64 (fs.getD j 0))) (hc2 : ∀ j, j < n → w.cell? ⟨b2, o2 + j, none⟩ = some (.int .i64 (ls.getD j 0))) (hbd : ∀ x ∈ ins (fs.zip ls) F L, -9223372036854775808 < x.1 ∧ x.1 ≤ 9223372036854775807) :
    Calls Try.prog 11 #[.slice (some ⟨b1, o1, none⟩) n c1, .slice (some ⟨b2, o2, none⟩) n c2, .int .i64 F, .int .i64 L] w fun e w' => Un w (capU (swp (ins (fs.zip ls) F L))) e w' := by
  have H1 : Hid (∀ j, j < n → w.cell? ⟨b1, o1 + j, none⟩ = some (.int .i64 (fs.getD j 0))) := hc1
  have H2 : Hid (∀ j, j < n → w.cell? ⟨b2, o2 + j, none⟩ = some (.int .i64 (ls.getD j 0))) := hc2
  have hb1 : b1 < w.heap.size := World.block_lt_of_cell? w ⟨b1, o1 + 0, none⟩ (hc1 0 hp)
  have hb2 : b2 < w.heap.size := World.block_lt_of_cell? w ⟨b2, o2 + 0, none⟩ (hc2 0 hp)
  have HBD : Hid (∀ x ∈ ins (fs.zip ls) F L, -9223372036854775808 < x.1 ∧ x.1 ≤ 9223372036854775807) := hbd
  clear hc1 hc2 hbd
  have HP : Hid ((fs.zip ls).length = n) := by unfold Hid; simp [hl1, hl2]
  have HLL : Hid (fs.length = n ∧ ls.length = n) := ⟨hl1, hl2⟩
  clear hl1 hl2
  go_enter Try.func11, Try.ntmps11
  go_wp2_with (at_make; first | (refine wpList_make_ints rfl _ (.tmp 22) 22 rfl Try.underlying22 _ _ 0 (n + 1) rfl (by go_num) (by omega) (by omega) ?_; intro w1 hI1 hG1) | (refine wpList_make_ints rfl _ (.tmp 25) 22 rfl Try.underlying22 _ _ 0 (n + 1) rfl (by go_num) (by omega) (by omega) ?_; intro w2 hI2 hG2))
  have T0 : Hid (Two w w2 w.heap.size w1.heap.size (n + 1) []) := Two.start hI1 hG1 hI2 hG2
  have hgB : w.heap.size < w1.heap.size := hI1.lt
  clear hI1 hG1 hI2 hG2
  obtain ⟨gB, hgB2⟩ : ∃ g, g = w1.heap.size := ⟨_, rfl⟩
  rw [← hgB2] at T0 hgB ⊢
  clear hgB2
  go_loopw [11, 12, 13, 14] (fun vA vB vp vk wr => ∃ (k : Nat) (pl : Bool) (X : List (Int × Int)) (p : Nat), k ≤ n ∧ p ≤ k + 1 ∧ (pl = false → p ≤ k) ∧ vk = .int .i64 k ∧ vp = .bool pl ∧ vA = .slice (some ⟨w.heap.size, 0, none⟩) p (n + 1) ∧ vB = .slice (some ⟨gB, 0, none⟩) p (n + 1) ∧ Hid (X.length = p ∧ Two w wr w.heap.size gB (n + 1) X ∧ L1 (fs.zip ls) F L k pl X)) (fun _ _ _ i _ => n - (intOf i).toNat)
  case atStart => exact ⟨0, false, [], 0, Nat.zero_le _, by omega, by omega, rfl, rfl, rfl, rfl, rfl, T0.out, by simp, by simp⟩
  case round =>
    obtain ⟨k, pl, X, p, hk, hpk, hpl, rfl, rfl, rfl, rfl, HX⟩ := hrel
    by_cases hlt : k < n
    · obtain ⟨f, hf⟩ : ∃ z, z = fs.getD k 0 := ⟨_, rfl⟩
      obtain ⟨l, hl⟩ : ∃ z, z = ls.getD k 0 := ⟨_, rfl⟩
      have C1 : Hid (w.cell? ⟨b1, o1 + k, none⟩ = some (.int .i64 f)) := by unfold Hid; rw [H1.out k hlt, hf]
      have C2 : Hid (w.cell? ⟨b2, o2 + k, none⟩ = some (.int .i64 l)) := by unfold Hid; rw [H2.out k hlt, hl]
      have g1 := cell_old HX.out.2.1.old hb1 C1.out
      have HE : Hid ((fs.zip ls).getD k (0, 0) = (f, l)) := by unfold Hid; rw [hf, hl]; exact zip_get HLL.out.1 HLL.out.2 hlt
      clear hf hl
      have hkz : k < (fs.zip ls).length := by rw [HP.out]; exact hlt
      cases pl with
      | false =>
        have hpk2 := hpl rfl
        by_cases hFf : F < f
        · go_wp2_with (at_builtin; first
          | (refine wpList_append_hf rfl (.tmp 42) (.tmp 44) rfl w.heap.size (n + 1) (X.map Prod.fst) (HX.out.2.1.a.alloc _) p 1 wr.heap.size F rfl rfl (by rw [List.length_map]; exact HX.out.1) (by omega) (alloc_cell _ _) ?_; intro w3 hA3 hG3)
          | (refine wpList_append_hf rfl (.tmp 46) (.tmp 48) rfl gB (n + 1) (X.map Prod.snd) (HX.out.2.1.bA hG3 _) p 1 w3.heap.size L rfl rfl (by rw [List.length_map]; exact HX.out.1) (by omega) (alloc_cell _ _) ?_; intro w4 hB4 hG4; have T4 : Hid _ := HX.out.2.1.aux (x := (F, L)) hA3 hG3 hB4 hG4; have g1 := cell_old T4.out.old hb1 C1.out; clear hA3 hG3 hB4 hG4)
          | (refine wpList_append_hf rfl (.tmp 50) (.tmp 55) rfl w.heap.size (n + 1) ((X ++ [(F, L)]).map Prod.fst) (T4.out.a.alloc _) (p + 1) 1 w4.heap.size f rfl rfl (by rw [List.length_map, List.length_append, HX.out.1]; rfl) (by omega) (alloc_cell _ _) ?_; intro w5 hA5 hG5; have g2 := cell_old (T4.out.oldA hG5) hb2 C2.out)
          | (refine wpList_append_hf rfl (.tmp 57) (.tmp 62) rfl gB (n + 1) ((X ++ [(F, L)]).map Prod.snd) (T4.out.bA hG5 _) (p + 1) 1 w5.heap.size l rfl rfl (by rw [List.length_map, List.length_append, HX.out.1]; rfl) (by omega) (alloc_cell _ _) ?_; intro w6 hB6 hG6; have T6 : Hid _ := T4.out.aux (x := (f, l)) hA5 hG5 hB6 hG6; clear hA5 hG5 hB6 hG6))
          go_roundw
          case rel =>
            refine ⟨k + 1, true, X ++ [(F, L)] ++ [(f, l)], p + 2, by omega, by omega, by simp, by go_num, rfl, rfl, rfl, by simp [HX.out.1], T6.out, ?_⟩
            rw [← HE.out]
            exact HX.out.2.2.put hkz (by rw [HE.out]; exact hFf)
          case measure => simp [intOf]; omega
        · go_wp2_with (at_builtin; first
          | (refine wpList_append_hf rfl (.tmp 50) (.tmp 55) rfl w.heap.size (n + 1) (X.map Prod.fst) (HX.out.2.1.a.alloc _) p 1 wr.heap.size f rfl rfl (by rw [List.length_map]; exact HX.out.1) (by omega) (alloc_cell _ _) ?_; intro w5 hA5 hG5; have g2 := cell_old (HX.out.2.1.oldA hG5) hb2 C2.out)
          | (refine wpList_append_hf rfl (.tmp 57) (.tmp 62) rfl gB (n + 1) (X.map Prod.snd) (HX.out.2.1.bA hG5 _) p 1 w5.heap.size l rfl rfl (by rw [List.length_map]; exact HX.out.1) (by omega) (alloc_cell _ _) ?_; intro w6 hB6 hG6; have T6 : Hid _ := HX.out.2.1.aux (x := (f, l)) hA5 hG5 hB6 hG6; clear hA5 hG5 hB6 hG6))
          go_roundw
          case rel =>
            refine ⟨k + 1, false, X ++ [(f, l)], p + 1, by omega, by omega, fun _ => by omega, by go_num, rfl, rfl, rfl, by simp [HX.out.1], T6.out, ?_⟩
            rw [← HE.out]
            exact HX.out.2.2.go hkz (fun _ => by rw [HE.out]; exact hFf)
          case measure => simp [intOf]; omega
      | true =>
        go_wp2_with (at_builtin; first
          | (refine wpList_append_hf rfl (.tmp 50) (.tmp 55) rfl w.heap.size (n + 1) (X.map Prod.fst) (HX.out.2.1.a.alloc _) p 1 wr.heap.size f rfl rfl (by rw [List.length_map]; exact HX.out.1) (by omega) (alloc_cell _ _) ?_; intro w5 hA5 hG5; have g2 := cell_old (HX.out.2.1.oldA hG5) hb2 C2.out)
          | (refine wpList_append_hf rfl (.tmp 57) (.tmp 62) rfl gB (n + 1) (X.map Prod.snd) (HX.out.2.1.bA hG5 _) p 1 w5.heap.size l rfl rfl (by rw [List.length_map]; exact HX.out.1) (by omega) (alloc_cell _ _) ?_; intro w6 hB6 hG6; have T6 : Hid _ := HX.out.2.1.aux (x := (f, l)) hA5 hG5 hB6 hG6; clear hA5 hG5 hB6 hG6))
        go_roundw
        case rel =>
          refine ⟨k + 1, true, X ++ [(f, l)], p + 1, by omega, by omega, by simp, by go_num, rfl, rfl, rfl, by simp [HX.out.1], T6.out, ?_⟩
          rw [← HE.out]
          exact HX.out.2.2.go hkz (by simp)
        case measure => simp [intOf]; omega
    · obtain rfl : k = n := by omega
      clear hlt hk hpk
      go_upto_if 65 with fail
      go_cut [11, 12] (fun vA vB wx => vA = .slice (some ⟨w.heap.size, 0, none⟩) (k + 1) (k + 1) ∧ vB = .slice (some ⟨gB, 0, none⟩) (k + 1) (k + 1) ∧ Hid (Two w wx w.heap.size gB (k + 1) (ins (fs.zip ls) F L)))
      case first =>
        cases pl with
        | false =>
          have hpk2 := hpl rfl
          have hpe : p = k := HX.out.1.symm.trans HX.out.2.2.1
          subst hpe
          go_wp2_with (at_builtin; first
            | (refine wpList_append_hf rfl (.tmp 66) (.tmp 68) rfl w.heap.size (p + 1) (X.map Prod.fst) (HX.out.2.1.a.alloc _) p 1 wr.heap.size F rfl rfl (by rw [List.length_map]; exact HX.out.1) (by omega) (alloc_cell _ _) ?_; intro w3 hA3 hG3)
            | (refine wpList_append_hf rfl (.tmp 70) (.tmp 72) rfl gB (p + 1) (X.map Prod.snd) (HX.out.2.1.bA hG3 _) p 1 w3.heap.size L rfl rfl (by rw [List.length_map]; exact HX.out.1) (by omega) (alloc_cell _ _) ?_; intro w4 hB4 hG4; have T4 : Hid _ := HX.out.2.1.aux (x := (F, L)) hA3 hG3 hB4 hG4; clear hA3 hG3 hB4 hG4))
          go_meet
          case rel =>
            refine ⟨rfl, rfl, ?_⟩
            have := L1.fin (P := fs.zip ls) (by rw [HP.out]; exact HX.out.2.2)
            rw [this]
            exact T4
        | true =>
          have hpe : p = k + 1 := HX.out.1.symm.trans HX.out.2.2.1
          subst hpe
          go_wp2
          go_meet
          case rel =>
            refine ⟨rfl, rfl, ?_⟩
            have := L1.fin2 (P := fs.zip ls) (by rw [HP.out]; exact HX.out.2.2)
            rw [this]
            exact HX.out.2.1
      case rest =>
        obtain ⟨rfl, rfl, TA⟩ := hcut
        obtain ⟨A, hA⟩ : ∃ A, A = ins (fs.zip ls) F L := ⟨_, rfl⟩
        have HAL : Hid (A.length = k + 1) := by unfold Hid; rw [hA, ins_length, HP.out]
        rw [← hA] at TA
        have HA : Hid (A = ins (fs.zip ls) F L) := hA
        clear hA HX hpl H1 H2 T0 HP
        have hgA := TA.out.a.lt
        have hgB2 := TA.out.b.lt
        obtain ⟨N, hN⟩ : ∃ N, N = k + 1 := ⟨_, rfl⟩
        have hN0 : 0 < A.length := by rw [HAL.out]; omega
        obtain ⟨⟨f0, l0⟩, hx0⟩ : ∃ x, x = A.getD 0 (0, 0) := ⟨_, rfl⟩
        have g1 := TA.out.at1 hN0
        have g2 := TA.out.at2 hN0
        rw [← hx0] at g1 g2
        have HS0 : Hid (swp A = [] ++ sw f0 l0 (A.drop 1)) := by unfold Hid; rw [swp_head hN0, ← hx0]
        clear hx0 hN0
        simp only at g1 g2
        go_wp2_with (first
          | (at_make; first | (refine wpList_make_ints rfl _ (.tmp 75) 22 rfl Try.underlying22 _ _ 0 (k + 1) rfl (by go_num) (by omega) (by omega) ?_; intro w3 hI3 hG3) | (refine wpList_make_ints rfl _ (.tmp 78) 22 rfl Try.underlying22 _ _ 0 (k + 1) rfl (by go_num) (by omega) (by omega) ?_; intro w4 hI4 hG4; have T1 := Two.start hI3 hG3 hI4 hG4; have g1 := cell_old T1.old hgA g1))
          | (at_builtin; first
             | (refine wpList_append_hf rfl (.tmp 80) (.tmp 84) rfl wc.heap.size (k + 1) [] (T1.a.alloc _) 0 1 w4.heap.size f0 rfl rfl rfl (by omega) (alloc_cell _ _) ?_; intro w5 hA5 hG5; have g2 := cell_old (T1.oldA hG5) hgB2 g2)
             | (refine wpList_append_hf rfl (.tmp 86) (.tmp 90) rfl w3.heap.size (k + 1) [] (T1.bA hG5 _) 0 1 w5.heap.size l0 rfl rfl rfl (by omega) (alloc_cell _ _) ?_; intro w6 hB6 hG6; have T2 : Hid _ := T1.aux (x := (f0, l0)) hA5 hG5 hB6 hG6; clear hA5 hG5 hB6 hG6)))
        clear g1 g2 hI3 hG3 hI4 hG4 T1
        go_loopw [15, 16, 17] (fun vC vD vk wr => ∃ (t m : Nat) (Y0 : List (Int × Int)) (c d : Int), 1 ≤ t ∧ t ≤ k + 1 ∧ m + 1 ≤ t ∧ vk = .int .i64 t ∧ vC = .slice (some ⟨wc.heap.size, 0, none⟩) (m + 1) (k + 1) ∧ vD = .slice (some ⟨w3.heap.size, 0, none⟩) (m + 1) (k + 1) ∧ Hid (Y0.length = m ∧ Two wc wr wc.heap.size w3.heap.size (k + 1) (Y0 ++ [(c, d)]) ∧ L2 A t Y0 c d)) (fun _ _ i _ => k + 1 - (intOf i).toNat)
        case atStart => exact ⟨1, 0, [], f0, l0, by omega, by omega, by omega, rfl, rfl, rfl, rfl, T2.out, HS0.out⟩
        case round =>
          obtain ⟨t, m, Y0, c, d, ht1, ht2, hmt, rfl, rfl, rfl, HY⟩ := hrel
          by_cases hlt : t < k + 1
          · have htA : t < A.length := by rw [HAL.out]; exact hlt
            obtain ⟨⟨f, l⟩, hx⟩ : ∃ x, x = A.getD t (0, 0) := ⟨_, rfl⟩
            have g1 := cell_old HY.out.2.1.old hgA (TA.out.at1 htA)
            have g2 := cell_old HY.out.2.1.old hgB2 (TA.out.at2 htA)
            have HE : Hid (A.getD t (0, 0) = (f, l)) := hx.symm
            have hfb := HBD.out (f, l) (by rw [← HA.out, hx]; exact getD_mem htA)
            have G1 : Hid (wc.cell? ⟨w.heap.size, t, none⟩ = some (.int .i64 f)) := by unfold Hid; rw [TA.out.at1 htA, ← hx]
            have G2 : Hid (wc.cell? ⟨gB, t, none⟩ = some (.int .i64 l)) := by unfold Hid; rw [TA.out.at2 htA, ← hx]
            rw [← hx] at g1 g2
            clear hx
            simp only at g1 g2 hfb
            have g3 := HY.out.2.1.at2 (k := m) (by rw [List.length_append, HY.out.1]; exact Nat.lt_succ_self _)
            have HG3 : Hid ((Y0 ++ [(c, d)]).getD m (0, 0) = (c, d)) := by unfold Hid; rw [← HY.out.1]; simp
            rw [HG3.out] at g3
            simp only at g3
            have g4 := HY.out.2.1.b.free m
            have hw1 : IntKind.i64.wrap (f - 1) = f - 1 := by rw [IntKind.wrap_i64]; omega
            go_wp2
            have hm0 : decide ((m : Int) < (m : Int) + 1) = true := decide_eq_true (by omega)
            by_cases hj : f - 1 ≤ d
            · have hdj : decide (f - 1 ≤ d) = true := decide_eq_true hj
              go_quiet (fail)
              go_wp2
              by_cases hdl : d < l
              · have hdd : decide (d < l) = true := decide_eq_true hdl
                go_quiet (fail)
                go_wp2
                go_roundw
                case rel =>
                  refine ⟨t + 1, m, Y0, c, l, by omega, by omega, by omega, by go_num, rfl, rfl, HY.out.1, ?_, ?_⟩
                  · exact (HY.out.2.1.drewN _).last' HY.out.1 l
                  · have := HY.out.2.2.join htA HE.out hj
                    rwa [show maxI d l = l from by unfold maxI; rw [if_pos hdl]] at this
                case measure => simp [intOf]; omega
              · have hdd : decide (d < l) = false := decide_eq_false hdl
                go_quiet (fail)
                go_wp2
                go_roundw
                case rel =>
                  refine ⟨t + 1, m, Y0, c, d, by omega, by omega, by omega, by go_num, rfl, rfl, HY.out.1, HY.out.2.1.drewN _, ?_⟩
                  have := HY.out.2.2.join htA HE.out hj
                  rwa [show maxI d l = d from by unfold maxI; rw [if_neg hdl]] at this
                case measure => simp [intOf]; omega
            · have hdj : decide (f - 1 ≤ d) = false := decide_eq_false hj
              go_quiet (fail)
              have HY2 : Hid _ := HY.out.2.1.drewN nq
              clear g1 g2 g3
              have g1 := cell_old HY2.out.old hgA G1.out
              go_wp2_with (at_builtin; first
                | (refine wpList_append_hf rfl (.tmp 127) (.tmp 132) rfl wc.heap.size (k + 1) ((Y0 ++ [(c, d)]).map Prod.fst) (HY2.out.a.alloc _) (m + 1) 1 wr.heap.size f rfl rfl (by rw [List.length_map, List.length_append, HY.out.1]; rfl) (by omega) (alloc_cell _ _) ?_; intro w7 hA7 hG7; have g2 := cell_old (HY2.out.oldA hG7) hgB2 G2.out)
                | (refine wpList_append_hf rfl (.tmp 134) (.tmp 139) rfl w3.heap.size (k + 1) ((Y0 ++ [(c, d)]).map Prod.snd) (HY2.out.bA hG7 _) (m + 1) 1 w7.heap.size l rfl rfl (by rw [List.length_map, List.length_append, HY.out.1]; rfl) (by omega) (alloc_cell _ _) ?_; intro w8 hB8 hG8; have T8 : Hid _ := HY2.out.aux (x := (f, l)) hA7 hG7 hB8 hG8; clear hA7 hG7 hB8 hG8))
              go_roundw
              case rel =>
                exact ⟨t + 1, m + 1, Y0 ++ [(c, d)], f, l, by omega, by omega, by omega, by go_num, rfl, rfl, by rw [List.length_append, HY.out.1]; rfl, T8.out, HY.out.2.2.next htA HE.out hj⟩
              case measure => simp [intOf]; omega
          · obtain rfl : t = k + 1 := by omega
            have HF : Hid (swp A = Y0 ++ [(c, d)]) := L2.fin (by rw [HAL.out]; exact HY.out.2.2)
            obtain ⟨Y, hY⟩ : ∃ Y, Y = Y0 ++ [(c, d)] := ⟨_, rfl⟩
            have HT : Hid (Two wc wr wc.heap.size w3.heap.size (k + 1) Y) := by unfold Hid; rw [hY]; exact HY.out.2.1
            have HYL : Hid (Y.length = m + 1) := by unfold Hid; rw [hY, List.length_append, HY.out.1]; rfl
            have HU : Hid (capU (swp (ins (fs.zip ls) F L)) = capU Y) := by unfold Hid; rw [← HA.out, HF.out, hY]
            clear hY HY HF
            by_cases hbig : 1024 < m + 1
            · obtain ⟨y, hy⟩ : ∃ y, y = (Y.getD 0 (0, 0)).1 := ⟨_, rfl⟩
              have g1 := HT.out.at1 (k := 0) (by rw [HYL.out]; omega)
              have g2 := HT.out.at1 (k := 1) (by rw [HYL.out]; omega)
              have g3 := HT.out.a.free 1
              rw [← hy] at g1
              generalize (Y.getD 1 (0, 0)).1 = y1 at g2
              have HZ : Hid (y = (Y.getD 0 (0, 0)).1) := hy
              clear hy
              have hb' : (1024 : Int) < (m : Int) + 1 := by omega
              go_wp2
              go_ret2
              obtain ⟨q1, q2, q3⟩ := HT.out.shift (by rw [HYL.out]; exact hbig) HZ.out
              refine ⟨wc.heap.size, w3.heap.size, 1, m, k, rfl, ?_, ?_, ?_⟩
              · rw [HU.out, q2, HYL.out]; rfl
              · rw [HU.out]
                intro j hj
                exact q1 j (by rw [HYL.out]; omega)
              · exact grownBy_trans TA.out.old q3
            · have hb' : ¬ (1024 : Int) < (m : Int) + 1 := by omega
              go_wp2
              go_ret2
              have hcp : capU Y = Y := by unfold capU; rw [if_neg (by rw [HYL.out]; exact hbig)]
              refine ⟨wc.heap.size, w3.heap.size, 0, m + 1, k + 1, rfl, ?_, ?_, ?_⟩
              · rw [HU.out, hcp, HYL.out]
              · rw [HU.out, hcp]
                intro j hj
                rw [Nat.zero_add]
                exact ⟨HT.out.at1 (by rw [HYL.out]; exact hj), HT.out.at2 (by rw [HYL.out]; exact hj)⟩
              · exact grownBy_trans TA.out.old HT.out.old
end Go.Proofs.Qxb6603657a.sr

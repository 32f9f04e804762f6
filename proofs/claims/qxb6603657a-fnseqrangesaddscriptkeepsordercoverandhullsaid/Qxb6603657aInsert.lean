import Derived.Test.Qxb6603657aSlices
namespace Go.Proofs.Qxb6603657a.sr
open Go.RowKit
set_option maxHeartbeats 800000 in
theorem delete_any (g n cap : Nat) (C : List (Int × Int)) (w : World) (hR : Row w g C) (hC : C.length = cap) (hn : 2 ≤ n) (hnc : n ≤ cap) (hc : cap ≤ 1048576) :
    Calls Try.prog 35 #[.slice (some ⟨g, 0, none⟩) n cap, .int .i64 0, .int .i64 1] w fun e w' =>
      e = .returned (.slice (some ⟨g, 0, none⟩) (n - 1) cap) ∧ Row w' g (putp (putp C 0 ((C.drop 1).take (n - 1))) (n - 1) [(0, 0)]) ∧ w.grownBy w' (some g) := by
  have HR : Hid (Row w g C) := hR
  have HC : Hid (C.length = cap) := hC
  clear hR hC
  have hb1 : (1 : Int) ≤ (n : Int) := by omega
  have hb2 : ¬ cap = 1 := by omega
  have hb3 : ¬ cap = 0 := by omega
  have hE : ((C.drop 1).take (n - 1)).length = n - 1 := by rw [List.length_take, List.length_drop, HC.out]; omega
  have HE : Hid (((C.drop 1).take (n - 1)).length = n - 1) := hE
  clear hE
  go_enter Try.func35, Try.ntmps35
  go_wp2
  go_region_law (refine step_append_pairs rfl (.tmp 22) (.tmp 25) 49 49 28 rfl Try.underlying49 Try.underlying49 g C ((C.drop 1).take (n - 1)) HR.out.drew 0 cap (n - 1) (cap - 1) ⟨g, 1 * 2, none⟩ ?hs ?hx ?hf ?hr HE.out (HR.out.drew.rd 1 (n - 1)) ?kk; (case hs => go_simp); (case hx => go_simp); (case hf => rw [HE.out, HC.out]; omega); (case hr => omega); intro w2 hR2 hG2)
  go_wp2_with (with_reducible refine at_clear ?_; go_must (refine wpList_clear_pairs rfl (.tmp 31) 49 rfl Try.underlying49 g (n - 1) _ hR2 _ _ rfl (by omega) (by rw [putp_length (by rw [HE.out, HC.out]; omega), HC.out]; omega) ?_); intro w3 hR3 hG3)
  go_ret
  refine ⟨rfl, ?_, grownBy_trans (grownBy_trans (grownBy_drew w _) hG2) hG3⟩
  rw [show n - (n - 1) = 1 by omega] at hR3
  exact hR3
theorem size28 : ∀ w, (Go.sizeOf 28).run Try.prog w = .ok 2 w := by
  obtain ⟨i0, hi, hz0, hz1, hz2⟩ := info_parts info28
  intro w
  simp [sizeOf, typeInfo, hi, hz1]
theorem Row.shape {w : World} {g : Nat} {C : List (Int × Int)} (h : Row w g C) : w.shape? g = some (28, C.length * 2) := by
  have := h
  unfold Row at this
  simp [World.shape?, this, ps_length]
theorem overlaps_no (g gv : Nat) (o lb cb : Nat) (C : List (Int × Int)) (r : Int × Int) (w : World) (hR : Row w g C) (hV : Row w gv [r]) (hne : gv ≠ g) (hC : 0 < C.length) :
    (callFunc 45 #[.slice (some ⟨gv, 0, none⟩) 1 1, .slice (some ⟨g, o, none⟩) lb cb]).run Try.prog w = .ok (.value (.bool false)) w := by
  rw [run_callFunc_extern Try.func45 (by kernel_rfl) (by kernel_rfl) (by kernel_rfl) (e := Extern.SlicesOverlaps.overlaps #[26, 26] #[4]) (by kernel_rfl),
    Lib.run_overlaps_apart w 26 4 28 Try.underlying26 2 size28 ⟨gv, 0, none⟩ ⟨g, o, none⟩ 1 1 lb cb hne 28 28 _ _ hV.shape hR.shape (by omega) (hV.free 0) (hV.free _)]
  rfl

/-! ### slices.Insert: one element, where there is room -/
set_option maxHeartbeats 800000 in
theorem insert_end (g gv n cap : Nat) (C : List (Int × Int)) (r : Int × Int) (w : World) (hR : Row w g C) (hV : Row w gv [r]) (hC : C.length = cap) (hnc : n < cap) (hc : cap ≤ 1048576) :
    Calls Try.prog 44 #[.slice (some ⟨g, 0, none⟩) n cap, .int .i64 n, .slice (some ⟨gv, 0, none⟩) 1 1] w fun e w' =>
      e = .returned (.slice (some ⟨g, 0, none⟩) (n + 1) cap) ∧ Row w' g (putp C n [r]) ∧ w.grownBy w' (some g) := by
  have HR : Hid (Row w g C) := hR
  have HV : Hid (RdP w ⟨gv, 0 * 2, none⟩ [r]) := hV.rd 0 1
  have HC : Hid (C.length = cap) := hC
  clear hR hC hV
  go_enter Try.func44, Try.ntmps44
  go_wp2_with (at_builtin; go_must (refine wpList_append_pairs rfl (.tmp 23) (.tmp 24) 49 26 28 rfl Try.underlying49 Try.underlying26 g C [r] HR.out n cap 1 1 ⟨gv, 0 * 2, none⟩ rfl rfl (by rw [HC.out]; simp; omega) (by omega) rfl HV.out ?_); intro w2 hR2 hG2)
  go_ret
  exact ⟨rfl, hR2, hG2⟩
set_option maxHeartbeats 800000 in
theorem insert_mid (g gv n cap i : Nat) (C : List (Int × Int)) (r : Int × Int) (w : World) (hR : Row w g C) (hV : Row w gv [r]) (hne : gv ≠ g) (hC : C.length = cap) (hi : i < n) (hnc : n < cap) (hc : cap ≤ 1048576) :
    Calls Try.prog 44 #[.slice (some ⟨g, 0, none⟩) n cap, .int .i64 i, .slice (some ⟨gv, 0, none⟩) 1 1] w fun e w' =>
      e = .returned (.slice (some ⟨g, 0, none⟩) (n + 1) cap) ∧ Row w' g (putp (putp C (i + 1) ((C.drop i).take (n - i))) i [r]) ∧ w.grownBy w' (some g) := by
  have hov : ∀ (lb cb : Nat), (callFunc 45 #[.slice (some ⟨gv, 0, none⟩) 1 1, .slice (some ⟨g, (i + 1) * 2, none⟩) lb cb]).run Try.prog w = .ok (.value (.bool false)) w := fun lb cb => overlaps_no g gv _ lb cb C r w hR hV hne (by omega)
  have HR : Hid (Row w g C) := hR
  have HV0 : Hid (Row w gv [r]) := hV
  have HN : Hid (gv ≠ g) := hne
  have HC : Hid (C.length = cap) := hC
  have HE : Hid (((C.drop i).take (n - i)).length = n - i) := by unfold Hid; rw [List.length_take, List.length_drop, hC]; omega
  clear hR hC hV hne
  have hw1 : IntKind.i64.wrap ((i : Int) + 1) = (i : Int) + 1 := by rw [IntKind.wrap_i64]; omega
  have hb1 : (0 : Int) ≤ (i : Int) + 1 := by omega
  have hb2 : (i : Int) + 1 ≤ (n : Int) + 1 := by omega
  have htn : ((i : Int) + 1).toNat = i + 1 := by omega
  have hb3 : ¬ cap = i + 1 := by omega
  have hb4 : ¬ cap = i := by omega
  have hb5 : (i : Int) ≤ (n : Int) + 1 := by omega
  have hb6 : i ≤ n + 1 := by omega
  go_enter Try.func44, Try.ntmps44
  go_wp2_with (simp only [hov])
  go_region_law (refine step_copy_pairs rfl (.tmp 73) (.tmp 76) 49 49 rfl Try.underlying49 g (i + 1) C ((C.drop i).take (n - i)) HR.out.drew ?hf (n + 1 - (i + 1)) (cap - (i + 1)) (n + 1 - i) (cap - i) ⟨g, i * 2, none⟩ ?hd ?hs ?hm (HR.out.drew.rd i (n - i)) ?kk; (case hf => rw [HE.out, HC.out]; omega); (case hd => go_simp); (case hs => go_simp); (case hm => rw [HE.out]; simp only [Nat.min_def]; split <;> omega); intro w2 hR2 hG2)
  have HV2 : Hid (RdP w2 ⟨gv, 0 * 2, none⟩ [r]) := (HV0.out.kept (grownBy_trans (grownBy_drew w _) hG2) (fun e => HN.out (by simpa using e.symm))).rd 0 1
  clear hov hw1 hb1 hb2 htn hb3 hb4 hb5 hb6
  go_wp2_with (with_reducible refine at_copy ?_; go_must (refine wpList_copy_pairs rfl (.tmp 80) (.tmp 81) 49 26 rfl Try.underlying49 g i _ [r] hR2 (by rw [putp_length (by rw [HE.out, HC.out]; omega), HC.out]; simp; omega) _ _ 1 1 ⟨gv, 0 * 2, none⟩ rfl rfl (show 1 = Nat.min 1 _ from (Nat.min_eq_left (by omega)).symm) HV2.out ?_); intro w3 hR3 hG3)
  go_ret
  exact ⟨rfl, hR3, grownBy_trans (grownBy_trans (grownBy_drew w _) hG2) hG3⟩
end Go.Proofs.Qxb6603657a.sr

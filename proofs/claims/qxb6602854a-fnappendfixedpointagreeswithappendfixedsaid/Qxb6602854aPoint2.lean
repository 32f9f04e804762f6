import Derived.Test.Qxb6602854aText
namespace Go.Proofs.Qxb6602854a.bys
open Go.RowKit
set_option linter.unusedVariables false

theorem pnt2_fin {v : Value} {B B' : Nat} {bs : List Int} {g M : Nat} {T : List Int} {s p pt : Nat} {w w2 : World} (hL : T.length = M) (hE : (M : Int) - 1 - p = pt) (hps : s < pt) (hp0 : 0 < p) (hs2 : s + 2 ≤ M) 
    (hO : Own w B v bs) (hB : B ≤ w.heap.size) (hne : v.ownBlock ≠ some g) (hG : w.grownBy w2 (some g)) (hT : Own w2 B' (.slice (some ⟨g, 0, none⟩) M M) (put T (pt + 1) (mid T pt (M - 1)))) :
    s + (out false T s p).length = M ∧
    (Own ((w2.setCell ⟨g, pt, none⟩ (.int .u8 46))) B' (.slice (some ⟨g, 0, none⟩) M M) (put T (lo false M s p) (out false T s p)) ∧ w.grownBy ((w2.setCell ⟨g, pt, none⟩ (.int .u8 46))) (some g)) ∧
    St B ((w2.setCell ⟨g, pt, none⟩ (.int .u8 46))) v bs none 0 [] ((w2.setCell ⟨g, pt, none⟩ (.int .u8 46))) v [] ∧ Rd ((w2.setCell ⟨g, pt, none⟩ (.int .u8 46))) (some ⟨g, s, none⟩) (out false T s p).length (out false T s p) := by
  subst hL
  have hlh := lo_hi false T s p hs2 (by simp only [Bool.false_eq_true, if_false]; rw [if_neg (by omega)]; omega)
  have hlo : lo false T.length s p = s := by unfold lo; simp only [Bool.false_eq_true, if_false]; rw [if_neg (by omega)]; rfl
  have hhi : hi T.length s p = T.length := by unfold hi; rw [if_pos (by omega)]
  rw [hhi, hlo] at hlh
  have s1 := hT.store pt 46
  rw [put_cons 46 (by rw [mid_length (by omega)]; omega)] at s1
  have f := fin_2 false T s p hs2 (by omega) hp0 (by simp only [Bool.false_eq_true, if_false]; omega)
  simp only [Bool.false_eq_true, if_false] at f
  rw [show T.length - 1 - p = pt by omega] at f
  rw [f] at s1
  have hg := grownBy_trans hG s1.2
  have hP := prep (l := s) (xs := out false T s p) hO hB hne hg s1.1 (by rw [hlo]; exact mid_put (by omega) rfl) (by omega)
  exact ⟨hlh, ⟨s1.1, hg⟩, hP.1, hP.2⟩

theorem pnt3_fin {v : Value} {B B' : Nat} {bs : List Int} {g M : Nat} {T : List Int} {s : Nat} {w : World} (hL : T.length = M) (hs2 : s + 2 ≤ M) 
    (hO : Own w B v bs) (hB : B ≤ w.heap.size) (hne : v.ownBlock ≠ some g) (hT : Own w B' (.slice (some ⟨g, 0, none⟩) M M) T) :
    s + (out false T s 0).length = M - 1 ∧
    (Own (w) B' (.slice (some ⟨g, 0, none⟩) M M) (put T (lo false M s 0) (out false T s 0)) ∧ w.grownBy (w) (some g)) ∧
    St B (w) v bs none 0 [] (w) v [] ∧ Rd (w) (some ⟨g, s, none⟩) (out false T s 0).length (out false T s 0) := by
  subst hL
  have hlh := lo_hi false T s 0 hs2 (by simp only [Bool.false_eq_true, if_false]; rw [if_neg (by omega)]; omega)
  have hlo : lo false T.length s 0 = s := by unfold lo; simp only [Bool.false_eq_true, if_false]; rw [if_neg (by omega)]; rfl
  have hhi : hi T.length s 0 = T.length - 1 := by unfold hi; rw [if_neg (by omega)]
  rw [hhi, hlo] at hlh
  have f := fin_3 false T s hs2 (by simp only [Bool.false_eq_true, if_false]; omega)
  simp only [Bool.false_eq_true, if_false] at f
  have s3 : Own w B' (.slice (some ⟨g, 0, none⟩) T.length T.length) (put T (lo false T.length s 0) (out false T s 0)) := by rw [← f]; exact hT
  have hg := grownBy_refl w (some g)
  have hP := prep (l := s) (xs := out false T s 0) hO hB hne hg s3 (by rw [hlo]; exact mid_put (by omega) rfl) (by omega)
  exact ⟨hlh, ⟨by exact s3, hg⟩, hP.1, hP.2⟩

set_option maxHeartbeats 800000 in
theorem pnt2 (v : Value) (B B' : Nat) (bs : List Int) (g M : Nat) (T : List Int) (s p pt : Nat) (w : World) (hO : Own w B v bs) (hB : B ≤ w.heap.size) (hT : Own w B' (.slice (some ⟨g, 0, none⟩) M M) T)
    (hne : v.ownBlock ≠ some g) (hl : bs.length ≤ 1048576) (hMx : M ≤ 1048576) (hs2 : s + 2 ≤ M) (hpp : p ≤ 65536) (hpe : (M : Int) - 1 - p = pt) (hps : s < pt) (hp0 : 0 < p)  :
    Calls Try.prog 23 #[v, .bool false, .slice (some ⟨g, 0, none⟩) M M, .int .i64 s, .int .i64 p] w fun e w' => ∃ v', e = .returned v' ∧ Own w' B v' (bs ++ out false T s p) ∧ Own w' B' (.slice (some ⟨g, 0, none⟩) M M) (put T (lo false M s p) (out false T s p)) ∧ Fx w w' v v' g := by
  have HT : Hid (Own w B' (.slice (some ⟨g, 0, none⟩) M M) T) := hT
  have HN : Hid (v.ownBlock ≠ some g) := hne
  have HO : Hid (Own w B v bs) := hO
  have HL : Hid (T.length = M) := hT.len
  have HE : Hid ((M : Int) - 1 - p = pt) := hpe
  have hpt1 : pt + 1 ≤ M := by omega
  have hwr : IntKind.i64.wrap ((pt : Int) + 1) = (pt : Int) + 1 := by rw [IntKind.wrap_i64]; omega
  have hb1 : (0 : Int) ≤ (pt : Int) + 1 := by omega
  have hb2 : (pt : Int) + 1 ≤ (M : Int) := by omega
  have htn : ((pt : Int) + 1).toNat = pt + 1 := by omega
  have hM1 : ¬ M = pt + 1 := by omega
  have hM2 : ¬ M = pt := by omega
  have hb3 : (pt : Int) ≤ (M : Int) - 1 := by omega
  have hb4 : (M : Int) - 1 ≤ (M : Int) := by omega
  have htm : ((M : Int) - 1).toNat = M - 1 := by omega
  clear hT hne hO
  go_enter Try.func23, Try.ntmps23
  go_wp2
  go_region_law (refine step_copy_text rfl (.tmp 48) (.tmp 52) rfl B' g M T pt HT.out.drew hpt1 (M - 1 - pt) (M - pt) (M - (pt + 1)) (M - (pt + 1)) ?hd ?hs rfl rfl ?kk; (case hd => go_simp); (case hs => go_simp); intro w2 hT2 hG2)
  have hF := pnt2_fin HL.out HE.out hps hp0 hs2  HO.out hB HN.out (grownBy_trans (grownBy_drew (grownBy_refl w _)) hG2) hT2
  have hc1 := hT2.cell (j := pt) (by omega)
  skip
  have hf := hT2.free
  have HF : Hid _ := hF
  clear hF hwr hb1 hb2 htn hM1 hM2 hb3 hb4 htm hT2 hG2
  go_wp2_with (at_builtin; refine wp_rd rfl (.tmp 65) (.tmp 69) rfl _ _ _ (out false T s p) rfl rfl HF.out.2.2.1 (HF.out.2.2.2.cast (by omega) (by have := HF.out.1; omega)) (by rw [List.append_nil]; omega) (by omega) ?_; intro v1 w1 h1)
  go_ret
  exact ⟨v1, rfl, h1.own, text_kept h1.ap HN.out HF.out.2.1.1, fx_of HF.out.2.1.2 h1.ap⟩

set_option maxHeartbeats 800000 in
theorem pnt3 (v : Value) (B B' : Nat) (bs : List Int) (g M : Nat) (T : List Int) (s : Nat) (w : World) (hO : Own w B v bs) (hB : B ≤ w.heap.size) (hT : Own w B' (.slice (some ⟨g, 0, none⟩) M M) T)
    (hne : v.ownBlock ≠ some g) (hl : bs.length ≤ 1048576) (hMx : M ≤ 1048576) (hs2 : s + 2 ≤ M)  :
    Calls Try.prog 23 #[v, .bool false, .slice (some ⟨g, 0, none⟩) M M, .int .i64 s, .int .i64 0] w fun e w' => ∃ v', e = .returned v' ∧ Own w' B v' (bs ++ out false T s 0) ∧ Own w' B' (.slice (some ⟨g, 0, none⟩) M M) (put T (lo false M s 0) (out false T s 0)) ∧ Fx w w' v v' g := by
  have hF := pnt3_fin hT.len hs2  hO hB hne hT
  have HN : Hid (v.ownBlock ≠ some g) := hne
  skip
  have hf := hT.free
  have HF : Hid _ := hF
  clear hF hT hne hO
  go_enter Try.func23, Try.ntmps23
  go_wp2_with (at_builtin; refine wp_rd rfl (.tmp 65) (.tmp 69) rfl _ _ _ (out false T s 0) rfl rfl HF.out.2.2.1 (HF.out.2.2.2.cast (by omega) (by have := HF.out.1; omega)) (by rw [List.append_nil]; omega) (by omega) ?_; intro v1 w1 h1)
  go_ret
  exact ⟨v1, rfl, h1.own, text_kept h1.ap HN.out HF.out.2.1.1, fx_of HF.out.2.1.2 h1.ap⟩

theorem pnt2_finn {v : Value} {B B' : Nat} {bs : List Int} {g M : Nat} {T : List Int} {s p pt : Nat} {w w2 : World} (hL : T.length = M) (hE : (M : Int) - 1 - p = pt) (hps : s < pt) (hp0 : 0 < p) (hs2 : s + 2 ≤ M) (hs0 : 1 ≤ s)
    (hO : Own w B v bs) (hB : B ≤ w.heap.size) (hne : v.ownBlock ≠ some g) (hG : w.grownBy w2 (some g)) (hT : Own w2 B' (.slice (some ⟨g, 0, none⟩) M M) (put T (pt + 1) (mid T pt (M - 1)))) :
    s - 1 + (out true T s p).length = M ∧
    (Own ((w2.setCell ⟨g, pt, none⟩ (.int .u8 46)).setCell ⟨g, s - 1, none⟩ (.int .u8 45)) B' (.slice (some ⟨g, 0, none⟩) M M) (put T (lo true M s p) (out true T s p)) ∧ w.grownBy ((w2.setCell ⟨g, pt, none⟩ (.int .u8 46)).setCell ⟨g, s - 1, none⟩ (.int .u8 45)) (some g)) ∧
    St B ((w2.setCell ⟨g, pt, none⟩ (.int .u8 46)).setCell ⟨g, s - 1, none⟩ (.int .u8 45)) v bs none 0 [] ((w2.setCell ⟨g, pt, none⟩ (.int .u8 46)).setCell ⟨g, s - 1, none⟩ (.int .u8 45)) v [] ∧ Rd ((w2.setCell ⟨g, pt, none⟩ (.int .u8 46)).setCell ⟨g, s - 1, none⟩ (.int .u8 45)) (some ⟨g, s - 1, none⟩) (out true T s p).length (out true T s p) := by
  subst hL
  have hlh := lo_hi true T s p hs2 (by simp only [if_true]; rw [if_neg (by omega)]; omega)
  have hlo : lo true T.length s p = s - 1 := by unfold lo; simp only [if_true]; rw [if_neg (by omega)]
  have hhi : hi T.length s p = T.length := by unfold hi; rw [if_pos (by omega)]
  rw [hhi, hlo] at hlh
  have s1 := hT.store pt 46
  rw [put_cons 46 (by rw [mid_length (by omega)]; omega)] at s1
  have f := fin_2 true T s p hs2 (by omega) hp0 (by simp only [if_true]; omega)
  simp only [if_true] at f
  rw [show T.length - 1 - p = pt by omega] at f
  have s3 := s1.1.store (s - 1) 45
  rw [f] at s3
  have hg := grownBy_trans (grownBy_trans hG s1.2) s3.2
  have hP := prep (l := s - 1) (xs := out true T s p) hO hB hne hg s3.1 (by rw [hlo]; exact mid_put (by omega) rfl) (by omega)
  exact ⟨hlh, ⟨s3.1, hg⟩, hP.1, hP.2⟩

theorem pnt3_finn {v : Value} {B B' : Nat} {bs : List Int} {g M : Nat} {T : List Int} {s : Nat} {w : World} (hL : T.length = M) (hs2 : s + 2 ≤ M) (hs0 : 1 ≤ s)
    (hO : Own w B v bs) (hB : B ≤ w.heap.size) (hne : v.ownBlock ≠ some g) (hT : Own w B' (.slice (some ⟨g, 0, none⟩) M M) T) :
    s - 1 + (out true T s 0).length = M - 1 ∧
    (Own ((w.setCell ⟨g, s - 1, none⟩ (.int .u8 45))) B' (.slice (some ⟨g, 0, none⟩) M M) (put T (lo true M s 0) (out true T s 0)) ∧ w.grownBy ((w.setCell ⟨g, s - 1, none⟩ (.int .u8 45))) (some g)) ∧
    St B ((w.setCell ⟨g, s - 1, none⟩ (.int .u8 45))) v bs none 0 [] ((w.setCell ⟨g, s - 1, none⟩ (.int .u8 45))) v [] ∧ Rd ((w.setCell ⟨g, s - 1, none⟩ (.int .u8 45))) (some ⟨g, s - 1, none⟩) (out true T s 0).length (out true T s 0) := by
  subst hL
  have hlh := lo_hi true T s 0 hs2 (by simp only [if_true]; rw [if_neg (by omega)]; omega)
  have hlo : lo true T.length s 0 = s - 1 := by unfold lo; simp only [if_true]; rw [if_neg (by omega)]
  have hhi : hi T.length s 0 = T.length - 1 := by unfold hi; rw [if_neg (by omega)]
  rw [hhi, hlo] at hlh
  have f := fin_3 true T s hs2 (by simp only [if_true]; omega)
  simp only [if_true] at f
  have s3 := hT.store (s - 1) 45
  rw [f] at s3
  have hg := s3.2
  have hP := prep (l := s - 1) (xs := out true T s 0) hO hB hne hg s3.1 (by rw [hlo]; exact mid_put (by omega) rfl) (by omega)
  exact ⟨hlh, ⟨by exact s3.1, hg⟩, hP.1, hP.2⟩

set_option maxHeartbeats 800000 in
theorem pnt2n (v : Value) (B B' : Nat) (bs : List Int) (g M : Nat) (T : List Int) (s p pt : Nat) (w : World) (hO : Own w B v bs) (hB : B ≤ w.heap.size) (hT : Own w B' (.slice (some ⟨g, 0, none⟩) M M) T)
    (hne : v.ownBlock ≠ some g) (hl : bs.length ≤ 1048576) (hMx : M ≤ 1048576) (hs2 : s + 2 ≤ M) (hpp : p ≤ 65536) (hpe : (M : Int) - 1 - p = pt) (hps : s < pt) (hp0 : 0 < p) (hs0 : 1 ≤ s) :
    Calls Try.prog 23 #[v, .bool true, .slice (some ⟨g, 0, none⟩) M M, .int .i64 s, .int .i64 p] w fun e w' => ∃ v', e = .returned v' ∧ Own w' B v' (bs ++ out true T s p) ∧ Own w' B' (.slice (some ⟨g, 0, none⟩) M M) (put T (lo true M s p) (out true T s p)) ∧ Fx w w' v v' g := by
  have HT : Hid (Own w B' (.slice (some ⟨g, 0, none⟩) M M) T) := hT
  have HN : Hid (v.ownBlock ≠ some g) := hne
  have HO : Hid (Own w B v bs) := hO
  have HL : Hid (T.length = M) := hT.len
  have HE : Hid ((M : Int) - 1 - p = pt) := hpe
  have hpt1 : pt + 1 ≤ M := by omega
  have hwr : IntKind.i64.wrap ((pt : Int) + 1) = (pt : Int) + 1 := by rw [IntKind.wrap_i64]; omega
  have hb1 : (0 : Int) ≤ (pt : Int) + 1 := by omega
  have hb2 : (pt : Int) + 1 ≤ (M : Int) := by omega
  have htn : ((pt : Int) + 1).toNat = pt + 1 := by omega
  have hM1 : ¬ M = pt + 1 := by omega
  have hM2 : ¬ M = pt := by omega
  have hb3 : (pt : Int) ≤ (M : Int) - 1 := by omega
  have hb4 : (M : Int) - 1 ≤ (M : Int) := by omega
  have htm : ((M : Int) - 1).toNat = M - 1 := by omega
  clear hT hne hO
  go_enter Try.func23, Try.ntmps23
  go_wp2
  go_region_law (refine step_copy_text rfl (.tmp 48) (.tmp 52) rfl B' g M T pt HT.out.drew hpt1 (M - 1 - pt) (M - pt) (M - (pt + 1)) (M - (pt + 1)) ?hd ?hs rfl rfl ?kk; (case hd => go_simp); (case hs => go_simp); intro w2 hT2 hG2)
  have hF := pnt2_finn HL.out HE.out hps hp0 hs2 hs0 HO.out hB HN.out (grownBy_trans (grownBy_drew (grownBy_refl w _)) hG2) hT2
  have hc1 := hT2.cell (j := pt) (by omega)
  have hc2 := hT2.cell (j := s - 1) (by omega)
  have hf := hT2.free
  have HF : Hid _ := hF
  clear hF hwr hb1 hb2 htn hM1 hM2 hb3 hb4 htm hT2 hG2
  go_wp2_with (at_builtin; refine wp_rd rfl (.tmp 65) (.tmp 69) rfl _ _ _ (out true T s p) rfl rfl HF.out.2.2.1 (HF.out.2.2.2.cast (by omega) (by have := HF.out.1; omega)) (by rw [List.append_nil]; omega) (by omega) ?_; intro v1 w1 h1)
  go_ret
  exact ⟨v1, rfl, h1.own, text_kept h1.ap HN.out HF.out.2.1.1, fx_of HF.out.2.1.2 h1.ap⟩

set_option maxHeartbeats 800000 in
theorem pnt3n (v : Value) (B B' : Nat) (bs : List Int) (g M : Nat) (T : List Int) (s : Nat) (w : World) (hO : Own w B v bs) (hB : B ≤ w.heap.size) (hT : Own w B' (.slice (some ⟨g, 0, none⟩) M M) T)
    (hne : v.ownBlock ≠ some g) (hl : bs.length ≤ 1048576) (hMx : M ≤ 1048576) (hs2 : s + 2 ≤ M) (hs0 : 1 ≤ s) :
    Calls Try.prog 23 #[v, .bool true, .slice (some ⟨g, 0, none⟩) M M, .int .i64 s, .int .i64 0] w fun e w' => ∃ v', e = .returned v' ∧ Own w' B v' (bs ++ out true T s 0) ∧ Own w' B' (.slice (some ⟨g, 0, none⟩) M M) (put T (lo true M s 0) (out true T s 0)) ∧ Fx w w' v v' g := by
  have hF := pnt3_finn hT.len hs2 hs0 hO hB hne hT
  have HN : Hid (v.ownBlock ≠ some g) := hne
  have hc2 := hT.cell (j := s - 1) (by omega)
  have hf := hT.free
  have HF : Hid _ := hF
  clear hF hT hne hO
  go_enter Try.func23, Try.ntmps23
  go_wp2_with (at_builtin; refine wp_rd rfl (.tmp 65) (.tmp 69) rfl _ _ _ (out true T s 0) rfl rfl HF.out.2.2.1 (HF.out.2.2.2.cast (by omega) (by have := HF.out.1; omega)) (by rw [List.append_nil]; omega) (by omega) ?_; intro v1 w1 h1)
  go_ret
  exact ⟨v1, rfl, h1.own, text_kept h1.ap HN.out HF.out.2.1.1, fx_of HF.out.2.1.2 h1.ap⟩
end Go.Proofs.Qxb6602854a.bys

import Derived.Test.Qxb6602854aText
namespace Go.Proofs.Qxb6602854a.bys
open Go.RowKit
set_option linter.unusedVariables false
theorem fill_step {T : List Int} {pt j : Nat} (h1 : pt ≤ j) (h2 : j < T.length) : (put T pt (zz ((j - pt : Nat) : Int))).set j 48 = put T pt (zz ((j + 1 - pt : Nat) : Int)) := by
  have hz := zz_length ((j - pt : Nat) : Int)
  have e := put_snoc (T := T) (i := pt) (xs := zz ((j - pt : Nat) : Int)) 48 (by rw [hz]; omega)
  rw [show pt + (zz ((j - pt : Nat) : Int)).length = j by rw [hz]; omega] at e
  rw [e]
  congr 1
  unfold zz
  rw [show (((j + 1 - pt : Nat) : Int)).toNat = (((j - pt : Nat) : Int)).toNat + 1 by omega, List.replicate_succ']

theorem pnt1_fin {v : Value} {B B' : Nat} {bs : List Int} {g M : Nat} {T : List Int} {s p pt : Nat} {w wr : World} (hL : T.length = M) (hE : (M : Int) - 1 - p = pt) (hps : pt ≤ s) (hs2 : s + 2 ≤ M) (hp2 : 2 ≤ pt)
    (hO : Own w B v bs) (hB : B ≤ w.heap.size) (hne : v.ownBlock ≠ some g) (hG : w.grownBy wr (some g)) (hT : Own wr B' (.slice (some ⟨g, 0, none⟩) M M) (put T pt (zz ((s - pt : Nat) : Int)))) :
    pt - 2 + (out false T s p).length = M - 1 ∧
    (Own (((wr.setCell ⟨g, pt - 2, none⟩ (.int .u8 48)).setCell ⟨g, pt - 2 + 1, none⟩ (.int .u8 46))) B' (.slice (some ⟨g, 0, none⟩) M M) (put T (lo false M s p) (out false T s p)) ∧ w.grownBy (((wr.setCell ⟨g, pt - 2, none⟩ (.int .u8 48)).setCell ⟨g, pt - 2 + 1, none⟩ (.int .u8 46))) (some g)) ∧
    St B (((wr.setCell ⟨g, pt - 2, none⟩ (.int .u8 48)).setCell ⟨g, pt - 2 + 1, none⟩ (.int .u8 46))) v bs none 0 [] (((wr.setCell ⟨g, pt - 2, none⟩ (.int .u8 48)).setCell ⟨g, pt - 2 + 1, none⟩ (.int .u8 46))) v [] ∧ Rd (((wr.setCell ⟨g, pt - 2, none⟩ (.int .u8 48)).setCell ⟨g, pt - 2 + 1, none⟩ (.int .u8 46))) (some ⟨g, pt - 2, none⟩) (out false T s p).length (out false T s p) := by
  have hz := zz_length ((s - pt : Nat) : Int)
  subst hL
  have hlh := lo_hi false T s p hs2 (by simp only [Bool.false_eq_true, if_false]; rw [if_pos (by omega)]; omega)
  have hlo : lo false T.length s p = pt - 2 := by unfold lo; simp only [Bool.false_eq_true, if_false]; rw [if_pos (by omega)]; omega
  have hhi : hi T.length s p = T.length - 1 := by unfold hi; rw [if_neg (by omega)]
  rw [hhi] at hlh
  have s1 := hT.store (pt - 2) 48
  have s2 := s1.1.store (pt - 2 + 1) 46
  have e2 : ((put T pt (zz ((s - pt : Nat) : Int))).set (pt - 2) 48).set (pt - 2 + 1) 46 = put T (pt - 2) (48 :: 46 :: zz ((s - pt : Nat) : Int)) := by
    have := put_put_snoc (T := T) (i := pt - 2) 48 46 (xs := zz ((s - pt : Nat) : Int)) (by rw [hz]; omega)
    rw [show pt - 2 + 2 = pt by omega] at this
    exact this
  rw [e2] at s2
  have f := fin_1 false T s p hs2 (by omega) (by simp only [Bool.false_eq_true, if_false]; omega)
  simp only [Bool.false_eq_true, if_false] at f
  rw [show T.length - 1 - p - 2 = pt - 2 by omega, show p - (T.length - 1 - s) = s - pt by omega] at f
  rw [f] at s2
  have hg := grownBy_trans (grownBy_trans hG s1.2) s2.2
  have hP := prep (l := pt - 2) (xs := out false T s p) hO hB hne hg s2.1 (by rw [← hlo]; exact mid_put (by omega) rfl) (by rw [← hlo]; omega)
  exact ⟨by rw [← hlo]; exact hlh, ⟨s2.1, hg⟩, hP.1, hP.2⟩

theorem pnt1_finn {v : Value} {B B' : Nat} {bs : List Int} {g M : Nat} {T : List Int} {s p pt : Nat} {w wr : World} (hL : T.length = M) (hE : (M : Int) - 1 - p = pt) (hps : pt ≤ s) (hs2 : s + 2 ≤ M) (hp2 : 3 ≤ pt)
    (hO : Own w B v bs) (hB : B ≤ w.heap.size) (hne : v.ownBlock ≠ some g) (hG : w.grownBy wr (some g)) (hT : Own wr B' (.slice (some ⟨g, 0, none⟩) M M) (put T pt (zz ((s - pt : Nat) : Int)))) :
    pt - 2 - 1 + (out true T s p).length = M - 1 ∧
    (Own (((wr.setCell ⟨g, pt - 2, none⟩ (.int .u8 48)).setCell ⟨g, pt - 2 + 1, none⟩ (.int .u8 46)).setCell ⟨g, pt - 2 - 1, none⟩ (.int .u8 45)) B' (.slice (some ⟨g, 0, none⟩) M M) (put T (lo true M s p) (out true T s p)) ∧ w.grownBy (((wr.setCell ⟨g, pt - 2, none⟩ (.int .u8 48)).setCell ⟨g, pt - 2 + 1, none⟩ (.int .u8 46)).setCell ⟨g, pt - 2 - 1, none⟩ (.int .u8 45)) (some g)) ∧
    St B (((wr.setCell ⟨g, pt - 2, none⟩ (.int .u8 48)).setCell ⟨g, pt - 2 + 1, none⟩ (.int .u8 46)).setCell ⟨g, pt - 2 - 1, none⟩ (.int .u8 45)) v bs none 0 [] (((wr.setCell ⟨g, pt - 2, none⟩ (.int .u8 48)).setCell ⟨g, pt - 2 + 1, none⟩ (.int .u8 46)).setCell ⟨g, pt - 2 - 1, none⟩ (.int .u8 45)) v [] ∧ Rd (((wr.setCell ⟨g, pt - 2, none⟩ (.int .u8 48)).setCell ⟨g, pt - 2 + 1, none⟩ (.int .u8 46)).setCell ⟨g, pt - 2 - 1, none⟩ (.int .u8 45)) (some ⟨g, pt - 2 - 1, none⟩) (out true T s p).length (out true T s p) := by
  have hz := zz_length ((s - pt : Nat) : Int)
  subst hL
  have hlh := lo_hi true T s p hs2 (by simp only [if_true]; rw [if_pos (by omega)]; omega)
  have hlo : lo true T.length s p = pt - 2 - 1 := by unfold lo; simp only [if_true]; rw [if_pos (by omega)]; omega
  have hhi : hi T.length s p = T.length - 1 := by unfold hi; rw [if_neg (by omega)]
  rw [hhi] at hlh
  have s1 := hT.store (pt - 2) 48
  have s2 := s1.1.store (pt - 2 + 1) 46
  have e2 : ((put T pt (zz ((s - pt : Nat) : Int))).set (pt - 2) 48).set (pt - 2 + 1) 46 = put T (pt - 2) (48 :: 46 :: zz ((s - pt : Nat) : Int)) := by
    have := put_put_snoc (T := T) (i := pt - 2) 48 46 (xs := zz ((s - pt : Nat) : Int)) (by rw [hz]; omega)
    rw [show pt - 2 + 2 = pt by omega] at this
    exact this
  rw [e2] at s2
  have f := fin_1 true T s p hs2 (by omega) (by simp only [if_true]; omega)
  simp only [if_true] at f
  rw [show T.length - 1 - p - 2 = pt - 2 by omega, show p - (T.length - 1 - s) = s - pt by omega] at f
  rw [show T.length - 1 - p - 3 = pt - 2 - 1 by omega] at f
  have s3 := s2.1.store (pt - 2 - 1) 45
  rw [f] at s3
  have hg := grownBy_trans (grownBy_trans (grownBy_trans hG s1.2) s2.2) s3.2
  have hP := prep (l := pt - 2 - 1) (xs := out true T s p) hO hB hne hg s3.1 (by rw [← hlo]; exact mid_put (by omega) rfl) (by rw [← hlo]; omega)
  exact ⟨by rw [← hlo]; exact hlh, ⟨s3.1, hg⟩, hP.1, hP.2⟩

set_option maxHeartbeats 800000 in
theorem pnt1 (v : Value) (B B' : Nat) (bs : List Int) (g M : Nat) (T : List Int) (s p pt : Nat) (w : World) (hO : Own w B v bs) (hB : B ≤ w.heap.size) (hT : Own w B' (.slice (some ⟨g, 0, none⟩) M M) T)
    (hne : v.ownBlock ≠ some g) (hl : bs.length ≤ 1048576) (hMx : M ≤ 1048576) (hs2 : s + 2 ≤ M) (hpp : p ≤ 65536) (hpe : (M : Int) - 1 - p = pt) (hps : pt ≤ s) (hp2 : 2 ≤ pt) :
    Calls Try.prog 23 #[v, .bool false, .slice (some ⟨g, 0, none⟩) M M, .int .i64 s, .int .i64 p] w fun e w' => ∃ v', e = .returned v' ∧ Own w' B v' (bs ++ out false T s p) ∧ Own w' B' (.slice (some ⟨g, 0, none⟩) M M) (put T (lo false M s p) (out false T s p)) ∧ Fx w w' v v' g := by
  have HT : Hid (Own w B' (.slice (some ⟨g, 0, none⟩) M M) T) := hT
  have HN : Hid (v.ownBlock ≠ some g) := hne
  have HO : Hid (Own w B v bs) := hO
  have HL : Hid (T.length = M) := hT.len
  have HE : Hid ((M : Int) - 1 - p = pt) := hpe
  have d1 : decide (pt ≤ s) = true := by simpa using hps
  clear hT hne hO
  go_enter Try.func23, Try.ntmps23
  go_wp2
  go_loopw [13] (fun i wr => ∃ j : Nat, pt ≤ j ∧ j ≤ s ∧ i = .int .i64 j ∧ Hid (Own wr B' (.slice (some ⟨g, 0, none⟩) M M) (put T pt (zz ((j - pt : Nat) : Int)))) ∧ Hid (w.grownBy wr (some g))) (fun i _ => s - (intOf i).toNat)
  case atStart => exact ⟨pt, by omega, by omega, by go_num, (by have := HT.out; simpa [zz, Hid, put_nil] using this), grownBy_refl _ _⟩
  case round =>
    obtain ⟨j, hj1, hj2, rfl, HT1, HG⟩ := hrel
    by_cases hlt : j < s
    · have hc := HT1.out.cell (j := j) (by omega)
      have hf := HT1.out.free j
      go_wp2
      go_roundw
      case rel =>
        have hst := HT1.out.store j 48
        refine ⟨j + 1, by omega, by omega, by go_num, ?_, grownBy_trans HG.out hst.2⟩
        have e := fill_step (T := T) (pt := pt) (j := j) hj1 (by rw [HL.out]; omega)
        rw [← e]
        exact hst.1
      case measure => simp [intOf]; omega
    · obtain rfl : j = s := by omega
      have hF := pnt1_fin HL.out HE.out hps hs2 hp2 HO.out hB HN.out HG.out HT1.out
      have hc2 := HT1.out.cell (j := pt - 2) (by omega)
      have hc1 := HT1.out.cell (j := pt - 2 + 1) (by omega)
      have hc0 := HT1.out.cell (j := pt - 1) (by omega)
      skip
      have hf := HT1.out.free
      have HF : Hid _ := hF
      clear hF
      go_wp2_with (at_builtin; refine wp_rd rfl (.tmp 65) (.tmp 69) rfl _ _ _ (out false T j p) rfl rfl HF.out.2.2.1 (HF.out.2.2.2.cast (by omega) (by have := HF.out.1; omega)) (by rw [List.append_nil]; omega) (by omega) ?_; intro v1 w1 h1)
      go_ret
      exact ⟨v1, rfl, h1.own, text_kept h1.ap HN.out HF.out.2.1.1, fx_of HF.out.2.1.2 h1.ap⟩

set_option maxHeartbeats 800000 in
theorem pnt1n (v : Value) (B B' : Nat) (bs : List Int) (g M : Nat) (T : List Int) (s p pt : Nat) (w : World) (hO : Own w B v bs) (hB : B ≤ w.heap.size) (hT : Own w B' (.slice (some ⟨g, 0, none⟩) M M) T)
    (hne : v.ownBlock ≠ some g) (hl : bs.length ≤ 1048576) (hMx : M ≤ 1048576) (hs2 : s + 2 ≤ M) (hpp : p ≤ 65536) (hpe : (M : Int) - 1 - p = pt) (hps : pt ≤ s) (hp2 : 3 ≤ pt) :
    Calls Try.prog 23 #[v, .bool true, .slice (some ⟨g, 0, none⟩) M M, .int .i64 s, .int .i64 p] w fun e w' => ∃ v', e = .returned v' ∧ Own w' B v' (bs ++ out true T s p) ∧ Own w' B' (.slice (some ⟨g, 0, none⟩) M M) (put T (lo true M s p) (out true T s p)) ∧ Fx w w' v v' g := by
  have HT : Hid (Own w B' (.slice (some ⟨g, 0, none⟩) M M) T) := hT
  have HN : Hid (v.ownBlock ≠ some g) := hne
  have HO : Hid (Own w B v bs) := hO
  have HL : Hid (T.length = M) := hT.len
  have HE : Hid ((M : Int) - 1 - p = pt) := hpe
  have d1 : decide (pt ≤ s) = true := by simpa using hps
  clear hT hne hO
  go_enter Try.func23, Try.ntmps23
  go_wp2
  go_loopw [13] (fun i wr => ∃ j : Nat, pt ≤ j ∧ j ≤ s ∧ i = .int .i64 j ∧ Hid (Own wr B' (.slice (some ⟨g, 0, none⟩) M M) (put T pt (zz ((j - pt : Nat) : Int)))) ∧ Hid (w.grownBy wr (some g))) (fun i _ => s - (intOf i).toNat)
  case atStart => exact ⟨pt, by omega, by omega, by go_num, (by have := HT.out; simpa [zz, Hid, put_nil] using this), grownBy_refl _ _⟩
  case round =>
    obtain ⟨j, hj1, hj2, rfl, HT1, HG⟩ := hrel
    by_cases hlt : j < s
    · have hc := HT1.out.cell (j := j) (by omega)
      have hf := HT1.out.free j
      go_wp2
      go_roundw
      case rel =>
        have hst := HT1.out.store j 48
        refine ⟨j + 1, by omega, by omega, by go_num, ?_, grownBy_trans HG.out hst.2⟩
        have e := fill_step (T := T) (pt := pt) (j := j) hj1 (by rw [HL.out]; omega)
        rw [← e]
        exact hst.1
      case measure => simp [intOf]; omega
    · obtain rfl : j = s := by omega
      have hF := pnt1_finn HL.out HE.out hps hs2 hp2 HO.out hB HN.out HG.out HT1.out
      have hc2 := HT1.out.cell (j := pt - 2) (by omega)
      have hc1 := HT1.out.cell (j := pt - 2 + 1) (by omega)
      have hc0 := HT1.out.cell (j := pt - 1) (by omega)
      have hc3 := HT1.out.cell (j := pt - 2 - 1) (by omega)
      have hf := HT1.out.free
      have HF : Hid _ := hF
      clear hF
      go_wp2_with (at_builtin; refine wp_rd rfl (.tmp 65) (.tmp 69) rfl _ _ _ (out true T j p) rfl rfl HF.out.2.2.1 (HF.out.2.2.2.cast (by omega) (by have := HF.out.1; omega)) (by rw [List.append_nil]; omega) (by omega) ?_; intro v1 w1 h1)
      go_ret
      exact ⟨v1, rfl, h1.own, text_kept h1.ap HN.out HF.out.2.1.1, fx_of HF.out.2.1.2 h1.ap⟩
end Go.Proofs.Qxb6602854a.bys

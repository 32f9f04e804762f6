import Derived.Test.Qxb6603657aMeet
import Derived.Test.Qxb6603657aAll
import Derived.Deep.RegionWith
namespace Go.Proofs.Qxb6603657a.sr
open Go.RowKit
set_option linter.unusedVariables false
def T3 (w : World) (e : Ending) (w' : World) : Prop := e = .returned (.bool true) ∧ w.grownBy w' none
set_option maxHeartbeats 1000000 in
set_option maxRecDepth 100000 in
theorem law3 (a0 a1 : Option Addr) (n0 c0 n1 c1 : Nat) (fs ls : List Int) (F L R : Int) (w : World) (h0 : Rd w a0 n0 fs) (h1 : Rd w a1 n1 ls) (hz0 : a0 = none → n0 = 0 ∧ c0 = 0) (hz1 : a1 = none → n1 = 0 ∧ c1 = 0)
    (hm0 : n0 ≤ maxLen) (hm1 : n1 ≤ maxLen) (hbf : ∀ z ∈ fs, -9223372036854775808 ≤ z ∧ z ≤ 9223372036854775807) (hbl : ∀ z ∈ ls, -9223372036854775808 ≤ z ∧ z ≤ 9223372036854775807)
    (hF : -9223372036854775808 ≤ F ∧ F ≤ 9223372036854775807) (hL : -9223372036854775808 ≤ L ∧ L ≤ 9223372036854775807) :
    Calls Try.prog 3 #[.slice a0 n0 c0, .slice a1 n1 c1, .int .i64 F, .int .i64 L, .int .i64 R] w (T3 w) := by
  unfold maxLen at hm0 hm1
  have H0 : Hid (Rd w a0 n0 fs) := h0
  have H1 : Hid (Rd w a1 n1 ls) := h1
  have HZ0 : Hid (a0 = none → n0 = 0 ∧ c0 = 0) := hz0
  have HZ1 : Hid (a1 = none → n1 = 0 ∧ c1 = 0) := hz1
  have HBF : Hid (∀ z ∈ fs, -9223372036854775808 ≤ z ∧ z ≤ 9223372036854775807) := hbf
  have HBL : Hid (∀ z ∈ ls, -9223372036854775808 ≤ z ∧ z ≤ 9223372036854775807) := hbl
  clear h0 h1 hz0 hz1 hbf hbl
  go_enter Try.func3, Try.ntmps3
  go_wp2_with fail
  refine (bytes7 a0 a1 n0 c0 n1 c1 F L R w (by omega) (by omega)).mono ?_
  rintro e w' ⟨⟨b, rfl, hb⟩, rfl⟩
  cases b with
  | false => go_wp2; go_ret; exact ⟨rfl, grownBy_refl _ _⟩
  | true =>
    have hs := hb rfl
    clear hb
    by_cases k1 : 65536 < n0
    · go_wp2; go_ret; exact ⟨rfl, grownBy_refl _ _⟩
    by_cases k2 : 65536 < n1
    · go_wp2; go_ret; exact ⟨rfl, grownBy_refl _ _⟩
    have k3 : ¬ 1048576 < 8 * (n0 : Int) + 8 * (n1 : Int) := by omega
    by_cases k4 : R < 0
    · go_wp2; go_ret; exact ⟨rfl, grownBy_refl _ _⟩
    by_cases k5 : 4096 < R
    · go_wp2; go_ret; exact ⟨rfl, grownBy_refl _ _⟩
    by_cases k6 : n0 = n1
    · subst k6
      by_cases k7 : 1024 < n0
      · go_wp2; go_ret; exact ⟨rfl, grownBy_refl _ _⟩
      go_wp2_with fail
      refine (valid_any a0 a1 n0 c0 c1 fs ls w' H0.out H1.out (by omega) HBF.out).mono ?_
      rintro e w1 ⟨⟨b, rfl, hb⟩, q, rfl⟩
      cases b with
      | false => go_wp2; go_ret; exact ⟨rfl, grownBy_drewN _ _ _⟩
      | true =>
        have HOK : Hid (∀ k, k < n0 → okK fs ls k) := hb rfl
        clear hb
        by_cases k8 : F = -9223372036854775808
        · go_wp2; go_ret; exact ⟨rfl, grownBy_drewN _ _ _⟩
        by_cases k9 : L < F
        · go_wp2; go_ret; exact ⟨rfl, grownBy_drewN _ _ _⟩
        have hd8 : decide (F = -9223372036854775808) = false := decide_eq_false k8
        have hd8b : (F == -9223372036854775808) = false := by simpa using k8
        have hd9 : decide (L < F) = false := decide_eq_false k9
        go_wp2_with fail
        refine (clone_any a0 n0 c0 fs _ (H0.out.kept (grownBy_drewN _ _ q)) HZ0.out (by omega)).mono ?_
        rintro e w2 ⟨a2, rfl, hR2, hG2⟩
        go_wp2_with fail
        refine (clone_any a1 n0 c1 ls _ ((H1.out.kept (grownBy_drewN _ _ q)).kept hG2) HZ1.out (by omega)).mono ?_
        rintro e w3 ⟨a3, rfl, hR3, hG3⟩
        have HF3 : Hid (Rd w3 a2 n0 fs) := hR2.kept hG3
        have HL3 : Hid (Rd w3 a3 n0 ls) := hR3
        have HG3 : Hid (w'.grownBy w3 none) := grownBy_trans (grownBy_trans (grownBy_drewN _ _ q) hG2) hG3
        clear hR2 hR3 hG2 hG3
        obtain ⟨r, rfl⟩ : ∃ r : Nat, R = (r : Int) := ⟨R.toNat, by omega⟩
        go_wp2_with (at_make; refine wpList_make_pairs rfl _ _ 26 rfl Try.underlying26 _ _ n0 (n0 + r) rfl (by go_num) (by omega) (by omega) ?_; intro w4 hI4 hG4)
        clear hd8 hd8b hd9
        obtain ⟨g, hg⟩ : ∃ g, g = w3.heap.size := ⟨_, rfl⟩
        rw [← hg] at hI4 ⊢
        have hgw : w'.heap.size ≤ g := by rw [hg]; exact HG3.out.size
        have HGW : Hid (w3.heap.size ≤ g) := Nat.le_of_eq hg.symm
        have HG4 : Hid (w3.grownBy w4 none) := hG4
        have HI4 : Hid (Row w4 g (List.replicate (n0 + r) (0, 0))) := hI4
        clear hI4 hG4 hg
        go_loopw [13] (fun vk wr => ∃ (t : Nat) (C : List (Int × Int)), t ≤ n0 ∧ vk = .int .i64 t ∧ Hid (Row wr g C ∧ C.length = n0 + r ∧ C.take t = (fs.zip ls).take t ∧ w3.grownBy wr none)) (fun i _ => n0 - (intOf i).toNat)
        case atStart => exact ⟨0, _, Nat.zero_le _, rfl, HI4.out, by simp, by simp, HG4.out⟩
        case round =>
          obtain ⟨t, C, ht, rfl, HC⟩ := hrel
          by_cases hlt : t < n0
          · obtain ⟨b1, o1, rfl, hc1⟩ := HF3.out.2 (by omega)
            obtain ⟨b2, o2, rfl, hc2⟩ := HL3.out.2 (by omega)
            obtain ⟨f, hf⟩ : ∃ z, z = fs.getD t 0 := ⟨_, rfl⟩
            obtain ⟨l, hl⟩ : ∃ z, z = ls.getD t 0 := ⟨_, rfl⟩
            have g1 := cell_old HC.out.2.2.2 (World.block_lt_of_cell? w3 ⟨b1, o1 + t, none⟩ (hc1 t hlt)) (hc1 t hlt)
            have g2 := cell_old HC.out.2.2.2 (World.block_lt_of_cell? w3 ⟨b2, o2 + t, none⟩ (hc2 t hlt)) (hc2 t hlt)
            rw [← hf] at g1
            rw [← hl] at g2
            have HE : Hid ((fs.zip ls).getD t (0, 0) = (f, l)) := by unfold Hid; rw [hf, hl]; exact zip_get HF3.out.1 HL3.out.1 hlt
            have g3 := HC.out.1.c1 (k := t) (by rw [HC.out.2.1]; omega)
            have g4 := HC.out.1.c2 (k := t) (by rw [HC.out.2.1]; omega)
            have g5 := HC.out.1.free (t * 2)
            have g6 := HC.out.1.free (t * 2 + 1)
            generalize (C.getD t (0, 0)).1 = y1 at g3
            generalize (C.getD t (0, 0)).2 = y2 at g4
            clear hc1 hc2 hf hl
            go_wp2
            go_big_region
            go_wp2
            go_roundw
            case rel =>
              have hp := HC.out.1.put2 t f l
              refine ⟨t + 1, C.set t (f, l), by omega, by go_num, hp.1.drew, by simp [HC.out.2.1], ?_, grown_none HC.out.2.2.2 (grownBy_trans hp.2 (grownBy_drew _ _)) HGW.out⟩
              rw [set_pairs (by rw [HC.out.2.1]; omega), take_more (by simp [HF3.out.1, HL3.out.1]; omega), HC.out.2.2.1, HE.out]
            case measure => simp [intOf]; omega
          · obtain rfl : t = n0 := by omega
            have HP : Hid (C.take t = fs.zip ls) := by unfold Hid; rw [HC.out.2.2.1, List.take_of_length_le (by simp [HF3.out.1, HL3.out.1])]
            have HV : Hid (V (fs.zip ls)) := V_ok HF3.out.1 HL3.out.1 HBF.out HBL.out HOK.out
            clear hlt ht
            go_wp2_with fail
            refine (zzadd_some g t (t + r) C F L wr HC.out.1 HC.out.2.1 (by omega) (by omega) (by omega) (by rw [HP.out]; exact HV.out) (by omega) (by omega) (by omega)).mono ?_
            rintro e w5 ⟨m, g', cap', C', rfl, x1, x2, x3, x4, x5, x6⟩
            rw [HP.out] at x4
            have hg' : w3.heap.size ≤ g' := by
              have := HGW.out
              have := HC.out.2.2.2.size
              rcases x6 with h | h <;> omega
            have hm : m ≤ 1024 := by
              have h1 := capU_le (Q := U (fs.zip ls) F L) (by have := U_len (fs.zip ls) F L; have : (fs.zip ls).length = t := by simp [HF3.out.1, HL3.out.1]
                                                              omega)
              rw [← x4, List.length_take] at h1
              omega
            have HX : Hid (Row w5 g' C' ∧ C'.length = cap' ∧ m ≤ cap' ∧ C'.take m = capU (U (fs.zip ls) F L) ∧ w3.grownBy w5 none) := ⟨x1, x2, x3, x4, grown_none HC.out.2.2.2 x5 hg'⟩
            clear x1 x2 x3 x4 x5 x6 hg'
            go_wp2_with fail
            refine (union_all a2 a3 t t t fs ls F L w5 (by omega) (HF3.out.kept HX.out.2.2.2.2) (HL3.out.kept HX.out.2.2.2.2) ?_).mono ?_
            · intro x hx
              rcases ins_mem _ _ _ _ hx with rfl | h
              · simp only; omega
              · have := HV.out.all x h
                omega
            rintro e w6 ⟨b1, b2, o, m2, c', rfl, y1, y2, y3⟩
            rw [swp_ins _ _ _ HV.out (by omega)] at y1 y2
            obtain rfl : m2 = m := by
              rw [← y1, ← HX.out.2.2.2.1, List.length_take]
              have := HX.out.2.1
              have := HX.out.2.2.1
              omega
            have HY : Hid (Row w6 g' C' ∧ (∀ k, k < m2 → w6.cell? ⟨b1, o + k, none⟩ = some (.int .i64 (C'.getD k (0, 0)).1) ∧ w6.cell? ⟨b2, o + k, none⟩ = some (.int .i64 (C'.getD k (0, 0)).2)) ∧ w'.grownBy w6 none) := by
              refine ⟨HX.out.1.kept y3 (by simp), fun k hk => ?_, grownBy_trans (grownBy_trans HG3.out HX.out.2.2.2.2) y3⟩
              rw [getD_of_take HX.out.2.2.2.1 hk]
              exact y2 k hk
            have hmc : m2 ≤ C'.length := by rw [HX.out.2.1]; exact HX.out.2.2.1
            clear y1 y2 y3
            go_wp2
            go_loopw [17] (fun vk wr2 => ∃ (k q : Nat), k ≤ m2 ∧ vk = .int .i64 k ∧ wr2 = w6.drewN q) (fun i _ => m2 - (intOf i).toNat)
            case atStart => exact ⟨0, 0, Nat.zero_le _, rfl, rfl⟩
            case round =>
              obtain ⟨k, q2, hk, rfl, rfl⟩ := hrel
              by_cases hkm : k < m2
              · have g1 := HY.out.1.c1 (k := k) (by omega)
                have g2 := HY.out.1.c2 (k := k) (by omega)
                obtain ⟨g3, g4⟩ := HY.out.2.1 k hkm
                generalize (C'.getD k (0, 0)).1 = f at g1 g3
                generalize (C'.getD k (0, 0)).2 = l at g2 g4
                go_wp2
                go_quiet (fail)
                go_wp2
                go_roundw
                case rel => exact ⟨k + 1, _, by omega, by go_num, rfl⟩
                case measure => simp [intOf]; omega
              · go_wp2
                go_ret
                exact ⟨rfl, grownBy_trans HY.out.2.2 (grownBy_drewN _ _ _)⟩
    · go_wp2; go_ret; exact ⟨rfl, grownBy_refl _ _⟩
end Go.Proofs.Qxb6603657a.sr

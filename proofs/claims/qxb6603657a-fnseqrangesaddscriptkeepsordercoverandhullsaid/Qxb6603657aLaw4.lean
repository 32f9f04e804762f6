import Derived.Test.Qxb6603657aScript
import Derived.Test.Qxb6603657aAll
import Derived.Deep.RegionWith
namespace Go.Proofs.Qxb6603657a.sr
open Go.RowKit
set_option linter.unusedVariables false
theorem Got.drew {w0 w : World} {g m cap : Nat} {C P : List (Int × Int)} (h : Got w0 w g m cap C P) : Got w0 w.drew g m cap C P :=
  ⟨h.row, h.len, h.mc, h.cap, h.tk, h.ml, h.base, grownBy_trans h.old (grownBy_drew _ _)⟩
theorem Got.kept {w0 w w' : World} {g m cap : Nat} {C P : List (Int × Int)} (h : Got w0 w g m cap C P) (hg : w.grownBy w' none) : Got w0 w' g m cap C P :=
  ⟨h.row.kept hg (by simp), h.len, h.mc, h.cap, h.tk, h.ml, h.base, grownBy_trans h.old hg⟩
def T4 (w : World) (e : Ending) (w' : World) : Prop := e = .returned (.bool true) ∧ w.grownBy w' none
set_option maxHeartbeats 1000000 in
set_option maxRecDepth 100000 in
theorem law4 (a0 a1 : Option Addr) (n0 c0 n1 c1 : Nat) (fs ls : List Int) (w : World) (h0 : Rd w a0 n0 fs) (h1 : Rd w a1 n1 ls) (hz0 : a0 = none → n0 = 0 ∧ c0 = 0) (hz1 : a1 = none → n1 = 0 ∧ c1 = 0)
    (hm0 : n0 ≤ maxLen) (hm1 : n1 ≤ maxLen) (hbf : ∀ z ∈ fs, -9223372036854775808 ≤ z ∧ z ≤ 9223372036854775807) (hbl : ∀ z ∈ ls, -9223372036854775808 ≤ z ∧ z ≤ 9223372036854775807) :
    Calls Try.prog 4 #[.slice a0 n0 c0, .slice a1 n1 c1] w (T4 w) := by
  unfold maxLen at hm0 hm1
  have H0 : Hid (Rd w a0 n0 fs) := h0
  have H1 : Hid (Rd w a1 n1 ls) := h1
  have HZ0 : Hid (a0 = none → n0 = 0 ∧ c0 = 0) := hz0
  have HZ1 : Hid (a1 = none → n1 = 0 ∧ c1 = 0) := hz1
  have HBF : Hid (∀ z ∈ fs, -9223372036854775808 ≤ z ∧ z ≤ 9223372036854775807) := hbf
  have HBL : Hid (∀ z ∈ ls, -9223372036854775808 ≤ z ∧ z ≤ 9223372036854775807) := hbl
  clear h0 h1 hz0 hz1 hbf hbl
  go_enter Try.func4, Try.ntmps4
  go_wp2_with fail
  refine (bytes12 a0 a1 n0 c0 n1 c1 w (by omega) (by omega)).mono ?_
  rintro e w' ⟨⟨b, rfl, hb⟩, rfl⟩
  cases b with
  | false => go_wp2; go_ret; exact ⟨rfl, grownBy_refl _ _⟩
  | true =>
    have hs := hb rfl
    clear hb
    by_cases k1 : 65536 < n0
    · go_wp2; go_ret; exact ⟨rfl, grownBy_refl _ _⟩
    by_cases k2 : 65536 < n1
    · go_wp2; go_ret; exact ⟨rfl, grownBy_refl _ _⟩
    have k3 : ¬ 1048576 < 8 * (n0 : Int) + 8 * (n1 : Int) := by omega
    by_cases k6 : n0 = n1
    · subst k6
      go_wp2
      clear k2 k3 hs hm0 hm1
      go_loopw [5] (fun i wr => ∃ k q : Nat, k ≤ n0 ∧ i = .int .i64 k ∧ wr = w'.drewN q ∧ Hid (∀ j, j < k → v1 fs ls j = false)) (fun i _ => n0 - (intOf i).toNat)
      case atStart => exact ⟨0, 0, Nat.zero_le _, rfl, rfl, fun j hj => absurd hj (by omega)⟩
      case round =>
        obtain ⟨k, q, hk, rfl, rfl, HK⟩ := hrel
        by_cases hlt : k < n0
        ·
          obtain ⟨b1, o1, rfl, hc1⟩ := H0.out.2 (by omega)
          obtain ⟨b2, o2, rfl, hc2⟩ := H1.out.2 (by omega)
          have g1 := hc1 k hlt
          have g2 := hc2 k hlt
          obtain ⟨f, hf⟩ : ∃ f, f = fs.getD k 0 := ⟨_, rfl⟩
          obtain ⟨l, hl⟩ : ∃ l, l = ls.getD k 0 := ⟨_, rfl⟩
          rw [← hf] at g1
          rw [← hl] at g2
          have HF : Hid (f = fs.getD k 0) := hf
          have HLL : Hid (l = ls.getD k 0) := hl
          clear hf hl hc1 hc2
          by_cases hf0 : f = -9223372036854775808
          · subst hf0
            go_wp2
            go_quiet (fail)
            go_wp2
            go_ret
            exact ⟨rfl, grownBy_trans (grownBy_drewN _ _ _) (grownBy_drewN _ _ _)⟩
          · have hd0 : decide (f = -9223372036854775808) = false := decide_eq_false hf0
            by_cases hfl : l < f
            · have hd1 : decide (l < f) = true := decide_eq_true hfl
              go_wp2
              go_quiet (fail)
              go_wp2
              go_ret
              exact ⟨rfl, grownBy_trans (grownBy_drewN _ _ _) (grownBy_drewN _ _ _)⟩
            · have hd1 : decide (l < f) = false := decide_eq_false hfl
              have HV1 : Hid (v1 fs ls k = false) := by unfold Hid v1; rw [← HF.out, ← HLL.out, hd0, hd1]; rfl
              go_wp2
              go_quiet (fail)
              go_wp2
              go_roundw
              case rel => exact ⟨k + 1, _, by omega, by go_num, rfl, fun j hj => by
                                                          by_cases e : j = k
                                                          · subst e; exact HV1.out
                                                          · exact HK.out j (by omega)⟩
              case measure => simp [intOf]; omega
        · obtain rfl : n0 = k := by omega
          clear hlt hk
          go_wp2_with fail
          refine (clone_any a0 n0 c0 fs _ (H0.out.kept (grownBy_drewN _ _ q)) HZ0.out (by omega)).mono ?_
          rintro e w2 ⟨a2, rfl, hR2, hG2⟩
          go_wp2_with fail
          refine (clone_any a1 n0 c1 ls _ ((H1.out.kept (grownBy_drewN _ _ q)).kept hG2) HZ1.out (by omega)).mono ?_
          rintro e w3 ⟨a3, rfl, hR3, hG3⟩
          have HF3 : Hid (Rd w3 a2 n0 fs) := hR2.kept hG3
          have HL3 : Hid (Rd w3 a3 n0 ls) := hR3
          have HG3 : Hid (w'.grownBy w3 none) := grownBy_trans (grownBy_trans (grownBy_drewN _ _ q) hG2) hG3
          have HB : Hid (∀ j, j < n0 → -9223372036854775808 < fs.getD j 0 ∧ fs.getD j 0 ≤ ls.getD j 0 ∧ ls.getD j 0 ≤ 9223372036854775807) := fun j hj => by
            have e1 := HBF.out _ (getD_of_mem (zs := fs) (k := j) (by rw [H0.out.1]; exact hj))
            have e2 := HBL.out _ (getD_of_mem (zs := ls) (k := j) (by rw [H1.out.1]; exact hj))
            have e3 := HK.out j hj
            simp only [v1, Bool.or_eq_false_iff, decide_eq_false_iff_not] at e3
            omega
          clear hR2 hR3 hG2 hG3 HK HBF HBL H0 H1 HZ0 HZ1
          go_wp2
          go_loopw [7, 8] (fun v7 vk wr => ∃ t : Nat, t ≤ n0 ∧ vk = .int .i64 t ∧ ((t = 0 ∧ v7 = .slice none 0 0 ∧ Hid (w3.grownBy wr none)) ∨ (0 < t ∧ ∃ (g m cap : Nat) (C P : List (Int × Int)), v7 = .slice (some ⟨g, 0, none⟩) m cap ∧ Hid (Got w3 wr g m cap C P ∧ Good fs ls t P)))) (fun _ i _ => n0 - (intOf i).toNat)
          case atStart => exact ⟨0, Nat.zero_le _, rfl, .inl ⟨rfl, rfl, grownBy_refl _ _⟩⟩
          case round =>
            obtain ⟨t, ht, rfl, hst⟩ := hrel
            by_cases hlt : t < n0
            ·
              obtain ⟨b1, o1, rfl, hc1⟩ := HF3.out.2 (by omega)
              obtain ⟨b2, o2, rfl, hc2⟩ := HL3.out.2 (by omega)
              have hw3 : w3.grownBy wr none := by
                rcases hst with ⟨_, _, h⟩ | ⟨_, g, m, cap, C, P, _, h⟩
                · exact h.out
                · exact h.out.1.old
              have g1 := cell_old hw3 (World.block_lt_of_cell? w3 ⟨b1, o1 + t, none⟩ (hc1 t hlt)) (hc1 t hlt)
              have g2 := cell_old hw3 (World.block_lt_of_cell? w3 ⟨b2, o2 + t, none⟩ (hc2 t hlt)) (hc2 t hlt)
              have hB := HB.out t hlt
              have HN : Hid (∀ P, Good fs ls t P → Good fs ls (t + 1) (capU (U P (fs.getD t 0) (ls.getD t 0)))) := fun P h => h.next hB.1 hB.2.1 hB.2.2
              generalize fs.getD t 0 = f at g1 hB HN
              generalize ls.getD t 0 = l at g2 hB HN
              obtain ⟨hB1, hB2, hB3⟩ := hB
              clear hc1 hc2 hw3
              rcases hst with ⟨ht0, rfl, HW⟩ | ⟨htp, g, m, cap, C, P, rfl, HW⟩
              · have HT0 : Hid (t = 0) := ht0
                clear ht0
                go_wp2
                go_region_with (go_at_call 10; refine (nil_add (w0 := w3) ?_ f l).mono ?_; exact grownBy_trans HW.out (grownBy_drew _ _); rintro e w4 ⟨m', g', cap', C', rfl, HX⟩)
                all_goals
                  have HY : Hid (Got w3 w4 g' m' cap' C' (capU (U [] f l)) ∧ Good fs ls (t + 1) (capU (U [] f l))) := ⟨HX, HN.out [] (by rw [HT0.out]; exact Good.zero _ _)⟩
                  clear HX HN HW g1 g2
                  go_wp2_with fail
                  refine (got_result HY.out.1 HY.out.2.v HY.out.2.len).mono ?_
                  rintro e w5 ⟨rfl, q, rfl⟩
                  go_wp2
                  go_roundw
                  case rel => exact ⟨t + 1, by omega, by go_num, .inr ⟨by omega, g', m', cap', C', _, rfl, HY.out.1.drewN q, HY.out.2⟩⟩
                  case measure => simp [intOf]; omega
              · go_wp2
                go_region_with (go_at_call 10; refine (got_add (w0 := w3) (P := P) (C := C) ?_ HW.out.2.v HW.out.2.len f l hB1 hB2 hB3).mono ?_; exact HW.out.1.drew; rintro e w4 ⟨m', g', cap', C', rfl, HX⟩)
                all_goals
                  have HY : Hid (Got w3 w4 g' m' cap' C' (capU (U P f l)) ∧ Good fs ls (t + 1) (capU (U P f l))) := ⟨HX, HN.out P HW.out.2⟩
                  clear HX HN HW g1 g2
                  go_wp2_with fail
                  refine (got_result HY.out.1 HY.out.2.v HY.out.2.len).mono ?_
                  rintro e w5 ⟨rfl, q, rfl⟩
                  go_wp2
                  go_roundw
                  case rel => exact ⟨t + 1, by omega, by go_num, .inr ⟨by omega, g', m', cap', C', _, rfl, HY.out.1.drewN q, HY.out.2⟩⟩
                  case measure => simp [intOf]; omega
            · obtain rfl : n0 = t := by omega
              clear hlt ht
              rename World => wq
              rcases hst with ⟨ht0, rfl, HW⟩ | ⟨htp, g, m, cap, C, P, rfl, HW⟩
              · subst ht0
                go_wp2
                go_ret
                exact ⟨rfl, grownBy_trans HG3.out HW.out⟩
              · obtain ⟨b1, o1, rfl, hc1⟩ := HF3.out.2 htp
                obtain ⟨b2, o2, rfl, hc2⟩ := HL3.out.2 htp
                have HFA : Hid (∀ j, j < n0 → wq.cell? ⟨b1, o1 + j, none⟩ = some (.int .i64 (fs.getD j 0))) := fun j hj => cell_old HW.out.1.old (World.block_lt_of_cell? w3 ⟨b1, o1 + j, none⟩ (hc1 j hj)) (hc1 j hj)
                have HLA : Hid (∀ j, j < n0 → wq.cell? ⟨b2, o2 + j, none⟩ = some (.int .i64 (ls.getD j 0))) := fun j hj => cell_old HW.out.1.old (World.block_lt_of_cell? w3 ⟨b2, o2 + j, none⟩ (hc2 j hj)) (hc2 j hj)
                clear hc1 hc2
                have g1 : wq.cell? ⟨b1, o1, none⟩ = some (.int .i64 (mn fs 0)) := HFA.out 0 htp
                have g2 : wq.cell? ⟨b2, o2, none⟩ = some (.int .i64 (mx ls 0)) := HLA.out 0 htp
                have hne : decide (n0 = 0) = false := decide_eq_false (by omega)
                have hne2 : (n0 == 0) = false := by simpa using hne
                go_wp2
                clear g1 g2 hne hne2
                go_loopw [9, 10, 11] (fun v9 v10 vk wx => ∃ (k : Nat) (y z : Int), 0 < k ∧ k ≤ n0 ∧ vk = .int .i64 k ∧ v9 = .int .i64 y ∧ v10 = .int .i64 z ∧ wq = wx ∧ Hid (y = mn fs (k - 1) ∧ z = mx ls (k - 1))) (fun _ _ i _ => n0 - (intOf i).toNat)
                case atStart => exact ⟨1, _, _, by omega, by omega, rfl, rfl, rfl, rfl, rfl, rfl⟩
                case round =>
                  obtain ⟨k, y, z, hk0, hk, rfl, rfl, rfl, rfl, HM⟩ := hrel
                  by_cases hlt : k < n0
                  ·
                    have g1 := HFA.out k hlt
                    have g2 := HLA.out k hlt
                    have HM2 : Hid (minI y (fs.getD k 0) = mn fs (k + 1 - 1) ∧ maxI z (ls.getD k 0) = mx ls (k + 1 - 1)) := by
                      unfold Hid
                      rw [HM.out.1, HM.out.2]
                      cases k with
                      | zero => omega
                      | succ j => exact ⟨rfl, rfl⟩
                    generalize fs.getD k 0 = f at g1 HM2
                    generalize ls.getD k 0 = l at g2 HM2
                    by_cases c1 : f < y
                    · have e1 : Hid (minI y f = f) := if_pos c1
                      by_cases c2 : z < l
                      · have e2 : Hid (maxI z l = l) := if_pos c2
                        go_wp2
                        go_roundw
                        case rel => exact ⟨k + 1, f, l, by omega, by omega, by go_num, rfl, rfl, by first | trivial | rfl, e1.out.symm.trans HM2.out.1, e2.out.symm.trans HM2.out.2⟩
                        case measure => simp [intOf]; omega
                      · have e2 : Hid (maxI z l = z) := if_neg c2
                        go_wp2
                        go_roundw
                        case rel => exact ⟨k + 1, f, z, by omega, by omega, by go_num, rfl, rfl, by first | trivial | rfl, e1.out.symm.trans HM2.out.1, e2.out.symm.trans HM2.out.2⟩
                        case measure => simp [intOf]; omega
                    · have e1 : Hid (minI y f = y) := if_neg c1
                      by_cases c2 : z < l
                      · have e2 : Hid (maxI z l = l) := if_pos c2
                        go_wp2
                        go_roundw
                        case rel => exact ⟨k + 1, y, l, by omega, by omega, by go_num, rfl, rfl, by first | trivial | rfl, e1.out.symm.trans HM2.out.1, e2.out.symm.trans HM2.out.2⟩
                        case measure => simp [intOf]; omega
                      · have e2 : Hid (maxI z l = z) := if_neg c2
                        go_wp2
                        go_roundw
                        case rel => exact ⟨k + 1, y, z, by omega, by omega, by go_num, rfl, rfl, by first | trivial | rfl, e1.out.symm.trans HM2.out.1, e2.out.symm.trans HM2.out.2⟩
                        case measure => simp [intOf]; omega
                  · obtain rfl : n0 = k := by omega
                    clear hlt hk hk0
                    have hml := HW.out.1.ml
                    have hm : m ≤ 1024 := by have := HW.out.2.len; omega
                    have hmp : 0 < m := by
                      have := HW.out.2.ne htp
                      rw [← hml]
                      exact List.length_pos_iff.2 this
                    clear hml
                    have g1 : wq.cell? ⟨g, 0, none⟩ = some (.int .i64 y) := by
                      have h1 := (HW.out.1.at hmp).1
                      have h2 := HW.out.2.lo htp
                      rw [HM.out.1, ← h2]
                      simpa [bot] using h1
                    have g2 : wq.cell? ⟨g, (m - 1) * 2 + 1, none⟩ = some (.int .i64 z) := by
                      rw [HM.out.2, ← HW.out.2.hi htp, top_last _ (HW.out.2.ne htp), HW.out.1.ml]
                      exact (HW.out.1.at (by omega)).2
                    have hd1 : decide (m = 0) = false := decide_eq_false (by omega)
                    have hd2 : (m == 0) = false := by simpa using hd1
                    have hw : IntKind.i64.wrap ((m : Int) - 1) = (m : Int) - 1 := by rw [IntKind.wrap_i64]; omega
                    have hi0 : (0 : Int) ≤ (m : Int) - 1 := by omega
                    have hi1 : (m : Int) - 1 < m := by omega
                    have hi2 : ((m : Int) - 1).toNat = m - 1 := by omega
                    go_wp2
                    clear hd1 hd2 hw hi0 hi1 hi2 g1 g2 HM
                    go_loopw [12] (fun vk wx => ∃ (k q : Nat), k ≤ n0 ∧ vk = .int .i64 k ∧ wx = wq.drewN q) (fun i _ => n0 - (intOf i).toNat)
                    case atStart => exact ⟨0, 0, Nat.zero_le _, rfl, rfl⟩
                    case round =>
                      obtain ⟨k, q, hk, rfl, rfl⟩ := hrel
                      by_cases hlt : k < n0
                      ·
                        have g1 := HFA.out k hlt
                        have g2 := HLA.out k hlt
                        have HC : Hid (Cov P (fs.getD k 0) (ls.getD k 0)) := HW.out.2.cov k hlt
                        generalize fs.getD k 0 = f at g1 HC
                        generalize ls.getD k 0 = l at g2 HC
                        go_wp2
                        go_quiet (first | (go_at_call 14; refine (got_covered (w0 := w3) (P := P) (C := C) (HW.out.1.drewN _) HW.out.2.len f l HC.out).mono ?_; rintro _ _ ⟨rfl, rfl⟩; exact ⟨rfl, _, rfl⟩))
                        go_wp2
                        go_roundw
                        case rel => exact ⟨k + 1, _, by omega, by go_num, rfl⟩
                        case measure => simp [intOf]; omega
                      · obtain rfl : n0 = k := by omega
                        clear hlt hk
                        go_wp2_with (at_make; refine wpList_make_pairs rfl _ _ 26 rfl Try.underlying26 _ _ m m rfl rfl (by omega) (by omega) ?_; intro w9 hI9 hG9)
                        obtain ⟨g2, hg2⟩ : ∃ g2, g2 = wq.heap.size := ⟨_, rfl⟩
                        have hgd := HW.out.1.row.lt
                        have hgg : g < g2 := by rw [hg2]; exact hgd
                        have HGB : Hid (wq.heap.size ≤ g2) := Nat.le_of_eq hg2.symm
                        have HI9 : Hid (Row w9 g2 (List.replicate m (0, 0))) := by unfold Hid; rw [hg2]; exact hI9
                        have HG9 : Hid (wq.grownBy w9 none) := grownBy_trans (grownBy_drewN _ _ _) hG9
                        simp only [← hg2]
                        clear hI9 hG9 hgd hg2
                        go_loopw [14] (fun vk wx => ∃ (t : Nat) (D : List (Int × Int)), t ≤ m ∧ vk = .int .i64 t ∧ Hid (Row wx g2 D ∧ D.length = m ∧ D.take t = P.take t ∧ wq.grownBy wx none)) (fun i _ => m - (intOf i).toNat)
                        case atStart => exact ⟨0, _, Nat.zero_le _, rfl, HI9.out, by simp, by simp, HG9.out⟩
                        case round =>
                          obtain ⟨t, D, ht, rfl, HD⟩ := hrel
                          by_cases hlt : t < m
                          ·
                            obtain ⟨g1, g2'⟩ := (HW.out.1.kept HD.out.2.2.2).at hlt
                            have g3 := HD.out.1.c1 (k := t) (by rw [HD.out.2.1]; omega)
                            have g4 := HD.out.1.c2 (k := t) (by rw [HD.out.2.1]; omega)
                            have g5 := HD.out.1.free (t * 2)
                            have g6 := HD.out.1.free (t * 2 + 1)
                            have HE : Hid (P.getD t (0, 0) = ((P.getD t (0, 0)).1, (P.getD t (0, 0)).2)) := rfl
                            obtain ⟨f, hf⟩ : ∃ f, f = (P.getD t (0, 0)).1 := ⟨_, rfl⟩
                            obtain ⟨l, hl⟩ : ∃ l, l = (P.getD t (0, 0)).2 := ⟨_, rfl⟩
                            have HE : Hid (P.getD t (0, 0) = (f, l)) := by unfold Hid; rw [hf, hl]
                            rw [← hf] at g1
                            rw [← hl] at g2'
                            clear hf hl
                            generalize (D.getD t (0, 0)).1 = y1 at g3
                            generalize (D.getD t (0, 0)).2 = y2 at g4
                            go_wp2
                            go_roundw
                            case rel =>
                              have hp := HD.out.1.put2 t f l
                              refine ⟨t + 1, D.set t (f, l), by omega, by go_num, hp.1, by simp [HD.out.2.1], ?_, grown_none HD.out.2.2.2 hp.2 HGB.out⟩
                              have hml := HW.out.1.ml
                              rw [set_pairs (by rw [HD.out.2.1]; omega), take_more (by omega), HD.out.2.2.1, HE.out]
                            case measure => simp [intOf]; omega
                          · obtain rfl : m = t := by omega
                            clear hlt ht
                            have HW0 : Hid (Got wq wr g2 m m D P) := by
                              have hml := HW.out.1.ml
                              refine ⟨HD.out.1, HD.out.2.1, Nat.le_refl _, by omega, ?_, hml, HGB.out, HD.out.2.2.2⟩
                              rw [HD.out.2.2.1, List.take_of_length_le (by omega)]
                            clear HD HI9 HG9 HGB
                            go_wp2
                            go_loopw [13, 15] (fun v13 vk wx => ∃ (t g3 m3 cap3 : Nat) (D : List (Int × Int)), t ≤ n0 ∧ vk = .int .i64 t ∧ v13 = .slice (some ⟨g3, 0, none⟩) m3 cap3 ∧ Hid (Got wq wx g3 m3 cap3 D P)) (fun _ i _ => n0 - (intOf i).toNat)
                            case atStart => exact ⟨0, g2, m, m, D, Nat.zero_le _, rfl, rfl, HW0⟩
                            case round =>
                              obtain ⟨t, g3, m3, cap3, D3, ht, rfl, rfl, HD⟩ := hrel
                              by_cases hlt : t < n0
                              · have g1 := cell_old HD.out.old (World.block_lt_of_cell? wq ⟨b1, o1 + t, none⟩ (HFA.out t hlt)) (HFA.out t hlt)
                                have g2 := cell_old HD.out.old (World.block_lt_of_cell? wq ⟨b2, o2 + t, none⟩ (HLA.out t hlt)) (HLA.out t hlt)
                                have hB := HB.out t hlt
                                have HC : Hid (Cov P (fs.getD t 0) (ls.getD t 0)) := HW.out.2.cov t hlt
                                generalize fs.getD t 0 = f at g1 hB HC
                                generalize ls.getD t 0 = l at g2 hB HC
                                obtain ⟨hB1, hB2, hB3⟩ := hB
                                go_wp2
                                go_region_with (go_at_call 10; refine (got_add (w0 := wq) (P := P) (C := D3) ?_ HW.out.2.v HW.out.2.len f l hB1 hB2 hB3).mono ?_; exact HD.out.drew; rintro e w4 ⟨m', g', cap', C', rfl, HX⟩)
                                all_goals
                                  rw [add_same HW.out.2.v HW.out.2.len hB2 HC.out] at HX
                                  have HY : Hid (Got wq w4 g' m' cap' C' P) := HX
                                  clear HX HD g1 g2 HC
                                  go_wp2_with fail
                                  refine (got_same HY.out (HW.out.1.kept HY.out.old) HW.out.2.len).mono ?_
                                  rintro e w5 ⟨rfl, q5, rfl⟩
                                  go_wp2
                                  go_roundw
                                  case rel => exact ⟨t + 1, g', m', cap', C', by omega, by go_num, rfl, HY.out.drewN q5⟩
                                  case measure => simp [intOf]; omega
                              · go_wp2
                                go_ret
                                exact ⟨rfl, grownBy_trans HG3.out (grownBy_trans HW.out.1.old HD.out.old)⟩
    · go_wp2; go_ret; exact ⟨rfl, grownBy_refl _ _⟩
end Go.Proofs.Qxb6603657a.sr

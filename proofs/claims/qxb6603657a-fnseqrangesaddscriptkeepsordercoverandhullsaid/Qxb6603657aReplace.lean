import Derived.Test.Qxb6603657aInsert
namespace Go.Proofs.Qxb6603657a.sr
open Go.RowKit
set_option linter.unusedVariables false
theorem RdP.drewN {w : World} {a : Addr} {E : List (Int × Int)} (h : RdP w a E) (q : Nat) : RdP (w.drewN q) a E := fun j v hv => h j v hv
set_option maxRecDepth 100000 in
set_option maxHeartbeats 1600000 in
/-- i = j = len -/
theorem replace_end (g gv n cap : Nat) (C : List (Int × Int)) (r : Int × Int) (w : World) (hR : Row w g C) (hV : Row w gv [r]) (hC : C.length = cap) (hnc : n < cap) (hc : cap ≤ 1048576) :
    Calls Try.prog 36 #[.slice (some ⟨g, 0, none⟩) n cap, .int .i64 n, .int .i64 n, .slice (some ⟨gv, 0, none⟩) 1 1] w fun e w' =>
      e = .returned (.slice (some ⟨g, 0, none⟩) (n + 1) cap) ∧ Row w' g (putp C n [r]) ∧ w.grownBy w' (some g) := by
  go_enter Try.func36, Try.ntmps36
  go_wp2_with (go_at_call 44; refine (insert_end g gv n cap C r _ hR hV hC hnc hc).mono ?_; rintro e w' ⟨rfl, h1, h2⟩)
  go_ret
  exact ⟨rfl, h1, h2⟩
set_option maxRecDepth 100000 in
set_option maxHeartbeats 1600000 in
/-- i = j < len -/
theorem replace_mid (g gv n cap i : Nat) (C : List (Int × Int)) (r : Int × Int) (w : World) (hR : Row w g C) (hV : Row w gv [r]) (hne : gv ≠ g) (hC : C.length = cap) (hi : i < n) (hnc : n < cap) (hc : cap ≤ 1048576) :
    Calls Try.prog 36 #[.slice (some ⟨g, 0, none⟩) n cap, .int .i64 i, .int .i64 i, .slice (some ⟨gv, 0, none⟩) 1 1] w fun e w' =>
      e = .returned (.slice (some ⟨g, 0, none⟩) (n + 1) cap) ∧ Row w' g (putp (putp C (i + 1) ((C.drop i).take (n - i))) i [r]) ∧ w.grownBy w' (some g) := by
  have HN : Hid (gv ≠ g) := hne
  have HC : Hid (C.length = cap) := hC
  clear hne hC
  go_enter Try.func36, Try.ntmps36
  go_wp2_with (go_at_call 44; refine (insert_mid g gv n cap i C r _ hR hV HN.out HC.out hi hnc hc).mono ?_; rintro e w' ⟨rfl, h1, h2⟩)
  go_ret
  exact ⟨rfl, h1, h2⟩
set_option maxRecDepth 100000 in
set_option maxHeartbeats 1600000 in
/-- i + 1 = j = len -/
theorem replace_last (g gv n cap i : Nat) (C : List (Int × Int)) (r : Int × Int) (w : World) (hR : Row w g C) (hV : Row w gv [r]) (hC : C.length = cap) (hi1 : i + 1 ≤ n) (hi2 : n ≤ i + 1) (hnc : n ≤ cap) (hc : cap ≤ 1048576) :
    Calls Try.prog 36 #[.slice (some ⟨g, 0, none⟩) n cap, .int .i64 i, .int .i64 n, .slice (some ⟨gv, 0, none⟩) 1 1] w fun e w' =>
      e = .returned (.slice (some ⟨g, 0, none⟩) (i + 1) cap) ∧ Row w' g (putp C i [r]) ∧ w.grownBy w' (some g) := by
  have HR : Hid (Row w g C) := hR
  have HV : Hid (RdP w ⟨gv, 0 * 2, none⟩ [r]) := hV.rd 0 1
  have HC : Hid (C.length = cap) := hC
  clear hR hC hV
  have hb4 : ¬ cap = i := by omega
  go_enter Try.func36, Try.ntmps36
  go_wp2_with (at_builtin; go_must (refine wpList_append_pairs rfl (.tmp 32) (.tmp 33) 49 26 28 rfl Try.underlying49 Try.underlying26 g C [r] HR.out i cap 1 1 ⟨gv, 0 * 2, none⟩ rfl rfl (by rw [HC.out]; simp; omega) (by omega) rfl HV.out ?_); intro w2 hR2 hG2)
  go_ret
  exact ⟨rfl, hR2, hG2⟩
set_option maxRecDepth 100000 in
set_option maxHeartbeats 1600000 in
/-- i + 1 < j = len -/
theorem replace_tail (g gv n cap i : Nat) (C : List (Int × Int)) (r : Int × Int) (w : World) (hR : Row w g C) (hV : Row w gv [r]) (hC : C.length = cap) (hi1 : i + 1 < n) (hnc : n ≤ cap) (hc : cap ≤ 1048576) :
    Calls Try.prog 36 #[.slice (some ⟨g, 0, none⟩) n cap, .int .i64 i, .int .i64 n, .slice (some ⟨gv, 0, none⟩) 1 1] w fun e w' =>
      e = .returned (.slice (some ⟨g, 0, none⟩) (i + 1) cap) ∧ Row w' g (putp (putp C i [r]) (i + 1) (List.replicate (n - (i + 1)) (0, 0))) ∧ w.grownBy w' (some g) := by
  have HR : Hid (Row w g C) := hR
  have HV : Hid (RdP w ⟨gv, 0 * 2, none⟩ [r]) := hV.rd 0 1
  have HC : Hid (C.length = cap) := hC
  clear hR hC hV
  have hb4 : ¬ cap = i := by omega
  have hb5 : ¬ cap = i + 1 := by omega
  go_enter Try.func36, Try.ntmps36
  go_wp2_with (first
    | (at_builtin; refine wpList_append_pairs rfl (.tmp 32) (.tmp 33) 49 26 28 rfl Try.underlying49 Try.underlying26 g C [r] HR.out i cap 1 1 ⟨gv, 0 * 2, none⟩ rfl rfl (by rw [HC.out]; simp; omega) (by omega) rfl HV.out ?_; intro w2 hR2 hG2)
    | (with_reducible refine at_clear ?_; go_must (refine wpList_clear_pairs rfl (.tmp 43) 49 rfl Try.underlying49 g (i + 1) _ hR2 _ _ rfl (by omega) (by rw [putp_length (by rw [HC.out]; simp; omega), HC.out]; omega) ?_); intro w3 hR3 hG3))
  go_ret
  exact ⟨rfl, hR3, grownBy_trans hG2 hG3⟩
theorem wpList_clear_zero {ops : Array Oper} {rest : List Oper} {o : Oper} {a : Act} {w : World} {Q : Exit → Act → World → Prop} (hgd : o.guard = none) (x : Operand) (t : TypeId) (ho : o.op = .call { callee := .builtin .clear, args := #[x], argTypes := #[t] }) (hu : Try.prog.underlying t = some (.slice 28))
    (ao : Option Addr) (m c : Nat) (hx : a.eval x = .slice ao m c) (hm : m = 0)
    (hk : wpList Try.prog ops Q rest (a.put o.dst (.tuple #[])) w) : wpList Try.prog ops Q (o :: rest) a w := by
  subst hm
  exact wpList_clear_none hgd x t ho hu ao c hx hk
set_option maxRecDepth 100000 in
set_option maxHeartbeats 1600000 in
/-- i + 1 = j < len -/
theorem replace_one (g gv n cap i j u : Nat) (C : List (Int × Int)) (r : Int × Int) (w : World) (hR : Row w g C) (hV : Row w gv [r]) (hC : C.length = cap) (hij : i + 1 ≤ j) (hij2 : j ≤ i + 1) (hj : j < n) (hnc : n ≤ cap) (hc : cap ≤ 1048576) (hu : (i : Int) + 1 + ((n - j : Nat) : Int) = (u : Int)) :
    Calls Try.prog 36 #[.slice (some ⟨g, 0, none⟩) n cap, .int .i64 i, .int .i64 j, .slice (some ⟨gv, 0, none⟩) 1 1] w fun e w' =>
      e = .returned (.slice (some ⟨g, 0, none⟩) u cap) ∧ Row w' g (putp (putp C i [r]) (i + 1) (((putp C i [r]).drop j).take (n - j))) ∧ w.grownBy w' (some g) := by
  have HR : Hid (Row w g C) := hR
  have HV : Hid (RdP w ⟨gv, 0 * 2, none⟩ [r]) := hV.rd 0 1
  have HC : Hid (C.length = cap) := hC
  have HL : Hid ((putp C i [r]).length = cap) := by unfold Hid; rw [putp_length (by rw [hC]; simp; omega)]; exact hC
  have HE : Hid ((((putp C i [r]).drop j).take (n - j)).length = n - j) := by unfold Hid; rw [List.length_take, List.length_drop, HL.out]; omega
  clear hR hC hV
  have hb4 : ¬ cap = i := by omega
  have hb5 : ¬ cap = i + 1 := by omega
  have hb6 : ¬ cap = j := by omega
  have hw1 : IntKind.i64.wrap ((i : Int) + 1) = (i : Int) + 1 := by rw [IntKind.wrap_i64]; omega
  have hb1 : (0 : Int) ≤ (i : Int) + 1 := by omega
  have hb2 : (i : Int) + 1 ≤ (u : Int) := by omega
  have htn : ((i : Int) + 1).toNat = i + 1 := by omega
  have hjn : j ≤ n := by omega
  have hu1 : u ≤ n := by omega
  have hu2 : u ≤ cap := by omega
  have hu3 : i + 1 ≤ u := by omega
  go_enter Try.func36, Try.ntmps36
  go_wp2
  go_quiet (fail)
  go_wp2_with (with_reducible refine at_copy ?_; go_must (refine wpList_copy_pairs rfl (.tmp 95) (.tmp 96) 49 26 rfl Try.underlying49 g i C [r] (HR.out.drewN _) (by rw [HC.out]; simp; omega) _ _ 1 1 ⟨gv, 0 * 2, none⟩ rfl rfl (show 1 = Nat.min 1 _ from (Nat.min_eq_left (by omega)).symm) (HV.out.drewN _) ?_); intro w2 hR2 hG2)
  go_region_law (refine step_copy_pairs rfl (.tmp 103) (.tmp 106) 49 49 rfl Try.underlying49 g (i + 1) (putp C i [r]) (((putp C i [r]).drop j).take (n - j)) hR2.drew ?hf (u - (i + 1)) (cap - (i + 1)) (n - j) (cap - j) ⟨g, j * 2, none⟩ ?hd ?hs ?hm (hR2.drew.rd j (n - j)) ?kk; (case hf => rw [HE.out, HL.out]; omega); (case hd => go_simp); (case hs => go_simp); (case hm => rw [HE.out]; simp only [Nat.min_def]; split <;> omega); intro w3 hR3 hG3)
  have HL3 : Hid ((putp (putp C i [r]) (i + 1) (((putp C i [r]).drop j).take (n - j))).length = cap) := by unfold Hid; rw [putp_length (by rw [HE.out, HL.out]; omega)]; exact HL.out
  have hgg := grownBy_trans (grownBy_trans (grownBy_drewN w _ _) hG2) (grownBy_trans (grownBy_drew _ _) hG3)
  go_wp2_with (with_reducible refine at_clear ?_; go_must (refine wpList_clear_zero rfl (.tmp 110) 49 rfl Try.underlying49 _ _ _ rfl (by omega) ?_))
  all_goals
    go_ret
    exact ⟨rfl, hR3, hgg⟩
set_option maxRecDepth 100000 in
set_option maxHeartbeats 1600000 in
/-- i + 1 < j < len -/
theorem replace_gap (g gv n cap i j u : Nat) (C : List (Int × Int)) (r : Int × Int) (w : World) (hR : Row w g C) (hV : Row w gv [r]) (hC : C.length = cap) (hij : i + 1 < j) (hj : j < n) (hnc : n ≤ cap) (hc : cap ≤ 1048576) (hu : (i : Int) + 1 + ((n - j : Nat) : Int) = (u : Int)) :
    Calls Try.prog 36 #[.slice (some ⟨g, 0, none⟩) n cap, .int .i64 i, .int .i64 j, .slice (some ⟨gv, 0, none⟩) 1 1] w fun e w' =>
      e = .returned (.slice (some ⟨g, 0, none⟩) u cap) ∧ Row w' g (putp (putp (putp C i [r]) (i + 1) (((putp C i [r]).drop j).take (n - j))) u (List.replicate (n - u) (0, 0))) ∧ w.grownBy w' (some g) := by
  have HR : Hid (Row w g C) := hR
  have HV : Hid (RdP w ⟨gv, 0 * 2, none⟩ [r]) := hV.rd 0 1
  have HC : Hid (C.length = cap) := hC
  have HL : Hid ((putp C i [r]).length = cap) := by unfold Hid; rw [putp_length (by rw [hC]; simp; omega)]; exact hC
  have HE : Hid ((((putp C i [r]).drop j).take (n - j)).length = n - j) := by unfold Hid; rw [List.length_take, List.length_drop, HL.out]; omega
  clear hR hC hV
  have hb4 : ¬ cap = i := by omega
  have hb5 : ¬ cap = i + 1 := by omega
  have hb6 : ¬ cap = j := by omega
  have hw1 : IntKind.i64.wrap ((i : Int) + 1) = (i : Int) + 1 := by rw [IntKind.wrap_i64]; omega
  have hb1 : (0 : Int) ≤ (i : Int) + 1 := by omega
  have hb2 : (i : Int) + 1 ≤ (u : Int) := by omega
  have htn : ((i : Int) + 1).toNat = i + 1 := by omega
  have hjn : j ≤ n := by omega
  have hu1 : u ≤ n := by omega
  have hu2 : u ≤ cap := by omega
  have hu3 : i + 1 ≤ u := by omega
  go_enter Try.func36, Try.ntmps36
  go_wp2
  go_quiet (fail)
  go_wp2_with (with_reducible refine at_copy ?_; go_must (refine wpList_copy_pairs rfl (.tmp 95) (.tmp 96) 49 26 rfl Try.underlying49 g i C [r] (HR.out.drewN _) (by rw [HC.out]; simp; omega) _ _ 1 1 ⟨gv, 0 * 2, none⟩ rfl rfl (show 1 = Nat.min 1 _ from (Nat.min_eq_left (by omega)).symm) (HV.out.drewN _) ?_); intro w2 hR2 hG2)
  go_region_law (refine step_copy_pairs rfl (.tmp 103) (.tmp 106) 49 49 rfl Try.underlying49 g (i + 1) (putp C i [r]) (((putp C i [r]).drop j).take (n - j)) hR2.drew ?hf (u - (i + 1)) (cap - (i + 1)) (n - j) (cap - j) ⟨g, j * 2, none⟩ ?hd ?hs ?hm (hR2.drew.rd j (n - j)) ?kk; (case hf => rw [HE.out, HL.out]; omega); (case hd => go_simp); (case hs => go_simp); (case hm => rw [HE.out]; simp only [Nat.min_def]; split <;> omega); intro w3 hR3 hG3)
  have HL3 : Hid ((putp (putp C i [r]) (i + 1) (((putp C i [r]).drop j).take (n - j))).length = cap) := by unfold Hid; rw [putp_length (by rw [HE.out, HL.out]; omega)]; exact HL.out
  have hgg := grownBy_trans (grownBy_trans (grownBy_drewN w _ _) hG2) (grownBy_trans (grownBy_drew _ _) hG3)
  have hb7 : ¬ cap = u := by omega
  go_wp2_with (with_reducible refine at_clear ?_; go_must (refine wpList_clear_pairs rfl (.tmp 110) 49 rfl Try.underlying49 g u _ hR3 _ _ rfl (by omega) (by rw [HL3.out]; omega) ?_); intro w4 hR4 hG4)
  go_ret
  exact ⟨rfl, hR4, grownBy_trans hgg hG4⟩

/-! ### the lists behind -/
theorem putp_get {C : List (Int × Int)} {o : Nat} {E : List (Int × Int)} (h : o + E.length ≤ C.length) (k : Nat) :
    (putp C o E)[k]? = if k < o then C[k]? else if k < o + E.length then E[k - o]? else C[k]? := by
  unfold putp
  rw [List.getElem?_append, List.length_take, Nat.min_eq_left (by omega)]
  by_cases h1 : k < o
  · rw [if_pos h1, if_pos h1, List.getElem?_take, if_pos h1]
  · rw [if_neg h1, if_neg h1, List.getElem?_append]
    by_cases h2 : k < o + E.length
    · rw [if_pos (by omega), if_pos h2]
    · rw [if_neg (by omega), if_neg h2, List.getElem?_drop]
      congr 1; omega
/-- what Replace leaves, read off the elements -/
theorem repl_get {C : List (Int × Int)} {n i j : Nat} {r : Int × Int} (hij : i ≤ j) (hjn : j ≤ n) (hn : n ≤ C.length) (k : Nat) :
    ((C.take n).take i ++ (r :: (C.take n).drop j))[k]? = if k < i then C[k]? else if k = i then some r else if k < n - (j - i) + 1 then C[k + j - i - 1]? else none := by
  have hl : ((C.take n).take i).length = i := by simp; omega
  rw [List.getElem?_append, hl]
  by_cases h1 : k < i
  · rw [if_pos h1, if_pos h1, List.getElem?_take, if_pos h1, List.getElem?_take, if_pos (by omega)]
  · rw [if_neg h1, if_neg h1]
    by_cases h2 : k = i
    · rw [if_pos h2, h2, Nat.sub_self]; rfl
    · rw [if_neg h2, show k - i = (k - i - 1) + 1 by omega, List.getElem?_cons_succ, List.getElem?_drop, List.getElem?_take]
      by_cases h3 : k < n - (j - i) + 1
      · rw [if_pos h3, if_pos (by omega)]; congr 1; omega
      · rw [if_neg h3, if_neg (by omega)]
theorem repl_end {C : List (Int × Int)} {n : Nat} {r : Int × Int} (hn : n < C.length) : (putp C n [r]).take (n + 1) = (C.take n).take n ++ (r :: (C.take n).drop n) := by
  apply List.ext_getElem?
  intro k
  rw [repl_get (Nat.le_refl n) (Nat.le_refl n) (by omega), List.getElem?_take, putp_get (by simp; omega)]
  simp only [List.length_cons, List.length_nil]
  by_cases h1 : k < n
  · rw [if_pos (by omega), if_pos h1, if_pos h1]
  · by_cases h2 : k = n
    · subst h2; rw [if_pos (by omega), if_neg h1, if_pos (by omega), if_neg h1, if_pos rfl, Nat.sub_self]; rfl
    · rw [if_neg (by omega), if_neg h1, if_neg h2, if_neg (by omega)]
theorem repl_mid {C : List (Int × Int)} {n i : Nat} {r : Int × Int} (hi : i < n) (hn : n < C.length) : (putp (putp C (i + 1) ((C.drop i).take (n - i))) i [r]).take (n + 1) = (C.take n).take i ++ (r :: (C.take n).drop i) := by
  have hE : ((C.drop i).take (n - i)).length = n - i := by rw [List.length_take, List.length_drop]; omega
  apply List.ext_getElem?
  intro k
  rw [repl_get (Nat.le_refl i) (by omega) (by omega), List.getElem?_take, putp_get (by rw [putp_length (by omega)]; simp; omega), putp_get (by omega), hE]
  simp only [List.length_cons, List.length_nil]
  by_cases h1 : k < i
  · rw [if_pos (by omega), if_pos h1, if_pos (by omega), if_pos h1]
  · by_cases h2 : k = i
    · subst h2; rw [if_pos (by omega), if_neg h1, if_pos (by omega), if_neg h1, if_pos rfl, Nat.sub_self]; rfl
    · rw [if_neg h1, if_neg h2]
      by_cases h3 : k < n + 1
      · rw [if_pos h3, if_neg h1, if_neg (by omega), if_neg (by omega), if_pos (by omega), if_pos (by omega), List.getElem?_take, if_pos (by omega), List.getElem?_drop]
        congr 1; omega
      · rw [if_neg h3]; simp only [if_neg h1, if_neg (show ¬ k < n - (i - i) + 1 by omega)]
theorem repl_last {C : List (Int × Int)} {n i : Nat} {r : Int × Int} (hi : i < n) (hn : n ≤ C.length) : (putp C i [r]).take (i + 1) = (C.take n).take i ++ (r :: (C.take n).drop n) := by
  apply List.ext_getElem?
  intro k
  rw [repl_get (by omega) (Nat.le_refl n) hn, List.getElem?_take, putp_get (by simp; omega)]
  simp only [List.length_cons, List.length_nil]
  by_cases h1 : k < i
  · rw [if_pos (by omega), if_pos h1, if_pos h1]
  · by_cases h2 : k = i
    · subst h2; rw [if_pos (by omega), if_neg h1, if_pos (by omega), if_neg h1, if_pos rfl, Nat.sub_self]; rfl
    · rw [if_neg (by omega), if_neg h1, if_neg h2, if_neg (by omega)]
theorem repl_tail {C : List (Int × Int)} {n i : Nat} {r : Int × Int} (D : List (Int × Int)) (hi : i < n) (hn : n ≤ C.length) (hD : i + 1 + D.length ≤ C.length) : (putp (putp C i [r]) (i + 1) D).take (i + 1) = (C.take n).take i ++ (r :: (C.take n).drop n) := by
  rw [← repl_last hi hn]
  apply List.ext_getElem?
  intro k
  rw [List.getElem?_take, List.getElem?_take]
  by_cases h1 : k < i + 1
  · rw [if_pos h1, if_pos h1, putp_get (by rw [putp_length (by simp; omega)]; omega), if_pos h1]
  · rw [if_neg h1, if_neg h1]
theorem repl_gap {C : List (Int × Int)} {n i j u : Nat} {r : Int × Int} (D : List (Int × Int)) (hij : i < j) (hj : j < n) (hn : n ≤ C.length) (hu : u = i + 1 + (n - j)) (hD : u + D.length ≤ C.length) :
    (putp (putp (putp C i [r]) (i + 1) (((putp C i [r]).drop j).take (n - j))) u D).take u = (C.take n).take i ++ (r :: (C.take n).drop j) := by
  have hl1 : (putp C i [r]).length = C.length := putp_length (by simp; omega)
  have hE : (((putp C i [r]).drop j).take (n - j)).length = n - j := by rw [List.length_take, List.length_drop, hl1]; omega
  have hl2 : (putp (putp C i [r]) (i + 1) (((putp C i [r]).drop j).take (n - j))).length = C.length := by rw [putp_length (by omega), hl1]
  apply List.ext_getElem?
  intro k
  rw [repl_get (by omega) (by omega) hn, List.getElem?_take, putp_get (by omega), putp_get (by omega), hE]
  by_cases h0 : k < u
  · rw [if_pos h0, if_pos h0]
    by_cases h1 : k < i
    · rw [if_pos (by omega), putp_get (by simp; omega), if_pos h1, if_pos h1]
    · by_cases h2 : k = i
      · subst h2; rw [if_pos (by omega), putp_get (by simp; omega), if_neg h1, if_neg h1, if_pos rfl, if_pos (by simp), Nat.sub_self]; rfl
      · rw [if_neg (by omega), if_pos (by omega), List.getElem?_take, if_pos (by omega), List.getElem?_drop, putp_get (by simp; omega), if_neg h1, if_neg h2, if_neg (by omega), if_neg (by simp; omega), if_pos (by omega)]
        congr 1; omega
  · rw [if_neg h0, if_neg (by omega), if_neg (by omega), if_neg (by omega)]

/-- slices.Replace(s, i, j, r), WHATEVER THE CASE, where there is room -/
theorem replace_any (g gv n cap i j : Nat) (C : List (Int × Int)) (r : Int × Int) (w : World) (hR : Row w g C) (hV : Row w gv [r]) (hne : gv ≠ g) (hC : C.length = cap) (hij : i ≤ j) (hjn : j ≤ n) (hnc : n ≤ cap) (hroom : i = j → n < cap) (hc : cap ≤ 1048576) :
    Calls Try.prog 36 #[.slice (some ⟨g, 0, none⟩) n cap, .int .i64 i, .int .i64 j, .slice (some ⟨gv, 0, none⟩) 1 1] w fun e w' =>
      ∃ (m : Nat) (C' : List (Int × Int)), e = .returned (.slice (some ⟨g, 0, none⟩) m cap) ∧ m ≤ cap ∧ Row w' g C' ∧ C'.length = cap ∧ C'.take m = (C.take n).take i ++ (r :: (C.take n).drop j) ∧ w.grownBy w' (some g) := by
  by_cases h1 : i = j
  · subst h1
    have hr := hroom rfl
    by_cases h2 : i = n
    · subst h2
      refine (replace_end g gv i cap C r w hR hV hC hr hc).mono ?_
      rintro e w' ⟨rfl, a1, a2⟩
      exact ⟨_, _, rfl, by omega, a1, by rw [putp_length (by simp; omega)]; exact hC, repl_end (by omega), a2⟩
    · refine (replace_mid g gv n cap i C r w hR hV hne hC (by omega) hr hc).mono ?_
      rintro e w' ⟨rfl, a1, a2⟩
      have hE : ((C.drop i).take (n - i)).length = n - i := by rw [List.length_take, List.length_drop]; omega
      exact ⟨_, _, rfl, by omega, a1, by rw [putp_length (by rw [putp_length (by omega)]; simp; omega), putp_length (by omega)]; exact hC, repl_mid (by omega) (by omega), a2⟩
  · by_cases h2 : j = n
    · subst h2
      by_cases h3 : i + 1 = j
      · refine (replace_last g gv j cap i C r w hR hV hC (by omega) (by omega) hnc hc).mono ?_
        rintro e w' ⟨rfl, a1, a2⟩
        exact ⟨_, _, rfl, by omega, a1, by rw [putp_length (by simp; omega)]; exact hC, repl_last (by omega) (by omega), a2⟩
      · refine (replace_tail g gv j cap i C r w hR hV hC (by omega) hnc hc).mono ?_
        rintro e w' ⟨rfl, a1, a2⟩
        have hl1 : (putp C i [r]).length = C.length := putp_length (by simp; omega)
        exact ⟨_, _, rfl, by omega, a1, by rw [putp_length (by rw [hl1]; simp; omega), hl1]; exact hC, repl_tail _ (by omega) (by omega) (by simp; omega), a2⟩
    · have hl1 : (putp C i [r]).length = C.length := putp_length (by simp; omega)
      have hE : (((putp C i [r]).drop j).take (n - j)).length = n - j := by rw [List.length_take, List.length_drop, hl1]; omega
      have hl2 : (putp (putp C i [r]) (i + 1) (((putp C i [r]).drop j).take (n - j))).length = C.length := by rw [putp_length (by omega), hl1]
      by_cases h3 : i + 1 = j
      · refine (replace_one g gv n cap i j (i + 1 + (n - j)) C r w hR hV hC (by omega) (by omega) (by omega) hnc hc (by omega)).mono ?_
        rintro e w' ⟨rfl, a1, a2⟩
        refine ⟨_, _, rfl, by omega, a1, by rw [hl2]; exact hC, ?_, a2⟩
        have := repl_gap (r := r) [] (show i < j by omega) (show j < n by omega) (show n ≤ C.length by omega) rfl (by simp; omega)
        rw [putp_nil] at this
        exact this
      · refine (replace_gap g gv n cap i j (i + 1 + (n - j)) C r w hR hV hC (by omega) (by omega) hnc hc (by omega)).mono ?_
        rintro e w' ⟨rfl, a1, a2⟩
        exact ⟨_, _, rfl, by omega, a1, by rw [putp_length (by rw [hl2]; simp; omega), hl2]; exact hC, repl_gap _ (by omega) (by omega) (by omega) rfl (by simp; omega), a2⟩

/-- slices.Delete(s, 0, 1), read off the elements -/
theorem del_get {C : List (Int × Int)} {n : Nat} (hn : 2 ≤ n) (hnc : n ≤ C.length) : (putp (putp C 0 ((C.drop 1).take (n - 1))) (n - 1) [(0, 0)]).take (n - 1) = (C.take n).drop 1 := by
  have hE : ((C.drop 1).take (n - 1)).length = n - 1 := by rw [List.length_take, List.length_drop]; omega
  apply List.ext_getElem?
  intro k
  rw [List.getElem?_take, putp_get (by rw [putp_length (by omega)]; simp; omega), putp_get (by omega), hE, List.getElem?_drop, List.getElem?_take]
  by_cases h : k < n - 1
  · rw [if_pos h, if_pos h, if_neg (by omega), if_pos (by omega), List.getElem?_take, if_pos (by omega), List.getElem?_drop, if_pos (by omega)]
    congr 1
  · rw [if_neg h, List.getElem?_eq_none (by rw [List.length_take]; omega)]
end Go.Proofs.Qxb6603657a.sr

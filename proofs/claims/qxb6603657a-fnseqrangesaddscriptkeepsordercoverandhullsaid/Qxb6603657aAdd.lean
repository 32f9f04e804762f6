import Derived.Test.Qxb6603657aAddMem
namespace Go.Proofs.Qxb6603657a.sr
open Go.RowKit
set_option linter.unusedVariables false

/-- the two places that add finds -/
structure Ix (P : List (Int × Int)) (F L : Int) (i j : Nat) : Prop where
  ij : i ≤ j
  jn : j ≤ P.length
  below : ∀ k, k < i → qB F (P.getD k (0, 0)).2 = false
  above : ∀ k, i ≤ k → k < P.length → qB F (P.getD k (0, 0)).2 = true
  touch : ∀ t, i ≤ t → t < j → tB L (P.getD t (0, 0)).1 = true
  stop : j < P.length → tB L (P.getD j (0, 0)).1 = false
/-- what add leaves -/
def res (P : List (Int × Int)) (F L : Int) (i j : Nat) : List (Int × Int) :=
  if i < j then P.take i ++ ((minI F (P.getD i (0, 0)).1, maxI L (P.getD (j - 1) (0, 0)).2) :: P.drop j)
  else if P.length = 1024 then
    if i ≤ 1 then (minI F (P.getD 0 (0, 0)).1, maxI L (P.getD 0 (0, 0)).2) :: P.drop 1
    else (((P.getD 0 (0, 0)).1, (P.getD 1 (0, 0)).2) :: P.drop 2).take (i - 1) ++ ((F, L) :: (((P.getD 0 (0, 0)).1, (P.getD 1 (0, 0)).2) :: P.drop 2).drop (i - 1))
  else P.take i ++ ((F, L) :: P.drop i)
/-- the call's end -/
def Done (w : World) (bs g n cap : Nat) (C : List (Int × Int)) (F L : Int) (e : Ending) (w' : World) : Prop :=
  ∃ (i j m g' cap' : Nat) (C' : List (Int × Int)), e = .returned (.tuple #[]) ∧ Ix (C.take n) F L i j ∧ w'.cell? ⟨bs, 0, none⟩ = some (.slice (some ⟨g', 0, none⟩) m cap') ∧ w'.frozen? ⟨bs, 0, none⟩ = false ∧ Row w' g' C' ∧ C'.length = cap' ∧ m ≤ cap' ∧
    C'.take m = res (C.take n) F L i j ∧ Fr w w' bs g' ∧ ((g' = g ∧ cap' = cap) ∨ (w.heap.size ≤ g' ∧ cap' ≤ 2048)) ∧ bs ≠ g'
theorem getD_take {C : List (Int × Int)} {n k : Nat} (h : k < n) : (C.take n).getD k (0, 0) = C.getD k (0, 0) := by
  simp [List.getD, h]
theorem ix_of {C : List (Int × Int)} {n i j : Nat} {F L : Int} (hn : n ≤ C.length) (hij : i ≤ j) (hjn : j ≤ n) (h1 : ∀ k, k < i → qB F (C.getD k (0, 0)).2 = false) (h2 : ∀ k, i ≤ k → k < n → qB F (C.getD k (0, 0)).2 = true)
    (h3 : ∀ t, i ≤ t → t < j → tB L (C.getD t (0, 0)).1 = true) (h4 : j < n → tB L (C.getD j (0, 0)).1 = false) : Ix (C.take n) F L i j := by
  have hl : (C.take n).length = n := by rw [List.length_take]; omega
  refine ⟨hij, by omega, fun k hk => ?_, fun k hk1 hk2 => ?_, fun t ht1 ht2 => ?_, fun hj => ?_⟩
  · rw [getD_take (by omega)]; exact h1 k hk
  · rw [getD_take (by omega)]; exact h2 k hk1 (by omega)
  · rw [getD_take (by omega)]; exact h3 t ht1 ht2
  · rw [getD_take (by omega)]; exact h4 (by omega)

/-- behind Replace: the row, and what *s = .. leaves -/
theorem fin_add {w W w' : World} {bs g2 : Nat} {vs v0 : Value} {r2 : Int × Int} {C2 C' : List (Int × Int)} {a b : Int} (A : As w W bs g2 vs v0 r2 C2) (hR : Row w' g2 C') (hG : (W.alloc (.cells #[.int .i64 a, .int .i64 b] 28)).grownBy w' (some g2)) :
    As w w' bs g2 vs v0 r2 C' := (A.alloc _).rowed hR hG

theorem grown_take {C : List (Int × Int)} {n c : Nat} (h : ((C.drop 0).take n).length = n) : (putp (List.replicate c (0, 0)) 0 ((C.drop 0).take n)).take n = C.take n := by
  unfold putp
  rw [List.take_zero, List.nil_append, List.take_left' h, List.drop_zero]
theorem cap_head {C : List (Int × Int)} {n : Nat} (x : Int × Int) (hn : 2 ≤ n) (hnc : n ≤ C.length) : ((putp C 1 [x]).take n).drop 1 = x :: (C.take n).drop 2 := by
  apply List.ext_getElem?
  intro k
  rw [List.getElem?_drop, List.getElem?_take, putp_get (by simp; omega)]
  simp only [List.length_cons, List.length_nil]
  match k with
  | 0 => rw [if_pos (by omega), if_neg (by omega), if_pos (by omega)]; rfl
  | k + 1 =>
    rw [List.getElem?_cons_succ, List.getElem?_drop, List.getElem?_take]
    by_cases h : 1 + (k + 1) < n
    · rw [if_pos h, if_neg (by omega), if_neg (by omega), if_pos (by omega)]
      congr 1; omega
    · rw [if_neg h, if_neg (by omega)]
theorem res_cap {C C4 : List (Int × Int)} {n cap i u : Nat} {F L F0 : Int} (hLN : (C.take n).length = 1024) (hC : C.length = cap) (hnc : n ≤ cap) (hi : 2 ≤ i) (hF0 : F0 = (C.getD 0 (0, 0)).1) (hu : u = i - 1)
    (hD : C4.take (n - 1) = ((putp C 1 [(F0, (C.getD 1 (0, 0)).2)]).take n).drop 1) :
    (C4.take (n - 1)).take u ++ ((F, L) :: (C4.take (n - 1)).drop u) = res (C.take n) F L i i := by
  have hn : n = 1024 := by rw [List.length_take] at hLN; omega
  rw [cap_head _ (by omega) (by omega)] at hD
  unfold res
  rw [if_neg (by omega), if_pos hLN, if_neg (by omega), getD_take (by omega), getD_take (by omega), hD, hu, hF0]
set_option maxRecDepth 100000 in
set_option maxHeartbeats 6400000 in
/-- add, AT A SLICE THAT IS NOT NIL -/
theorem add_some (bs g n cap : Nat) (C : List (Int × Int)) (F L : Int) (w : World) (h0 : w.cell? ⟨bs, 0, none⟩ = some (.slice (some ⟨g, 0, none⟩) n cap)) (hf0 : w.frozen? ⟨bs, 0, none⟩ = false) (hR : Row w g C) (hbg : bs ≠ g)
    (hC : C.length = cap) (hnc : n ≤ cap) (hn : n ≤ 1024) (hcap : cap ≤ 8192) (hF : -9223372036854775808 < F) (hF2 : F ≤ 9223372036854775807) (hL : -9223372036854775808 < L) (hL2 : L ≤ 9223372036854775807)
    (hb : ∀ k, k < n → -9223372036854775808 < (C.getD k (0, 0)).1 ∧ (C.getD k (0, 0)).1 ≤ 9223372036854775807)
    (hmono : ∀ i j, i ≤ j → j < n → qB F (C.getD i (0, 0)).2 = true → qB F (C.getD j (0, 0)).2 = true) :
    Calls Try.prog 24 #[.pointer (some ⟨bs, 0, none⟩), .agg #[.int .i64 F, .int .i64 L]] w (Done w bs g n cap C F L) := by
  have HB : Hid (∀ k, k < n → -9223372036854775808 < (C.getD k (0, 0)).1 ∧ (C.getD k (0, 0)).1 ≤ 9223372036854775807) := hb
  have HC : Hid (C.length = cap) := hC
  have HM : Hid (∀ i j, i ≤ j → j < n → qB F (C.getD i (0, 0)).2 = true → qB F (C.getD j (0, 0)).2 = true) := hmono
  have HR0 : Hid (Row w g C) := hR
  have hbs : bs < w.heap.size := World.block_lt_of_cell? w ⟨bs, 0, none⟩ h0
  have A0' : Hid _ := As.start (r := (F, L)) hR h0 hf0 hbg
  clear hb hmono hC hbg
  go_enter Try.func24, Try.ntmps24
  go_wp2_with fail
  have A0 := A0'.out
  have f0 := A0.facts
  clear A0'
  refine (search (w.heap.size + 1) w.heap.size g n cap (fun k => (C.getD k (0, 0)).2) F _ f0.2.2.1 f0.1 (by omega) hF hF2 (fun k hk => A0.row.c2 (by rw [HC.out]; omega)) HM.out).mono ?_
  rintro e w1 ⟨i, rfl, hin, hi1, hi2, q, hw1⟩
  have A1 : As w w1 bs g (.slice (some ⟨g, 0, none⟩) n cap) (.slice (some ⟨g, 0, none⟩) n cap) (F, L) C := by rw [hw1]; exact A0.drewN q
  have HI1 : Hid (∀ k, k < i → qB F (C.getD k (0, 0)).2 = false) := hi1
  have HI2 : Hid (∀ k, i ≤ k → k < n → qB F (C.getD k (0, 0)).2 = true) := hi2
  clear hw1 A0 f0 h0 hf0 hR hi1 hi2 HM
  obtain ⟨e1, e2, e3, e4, e5, e6⟩ := A1.facts
  go_wp2
  go_loopw [6] (fun a wr => ∃ k q : Nat, i ≤ k ∧ k ≤ n ∧ a = .int .i64 k ∧ wr = w1.drewN q ∧ Hid (∀ t, i ≤ t → t < k → tB L (C.getD t (0, 0)).1 = true)) (fun a _ => n - (intOf a).toNat)
  case atStart => exact ⟨i, 0, by omega, by omega, rfl, rfl, fun t h1 h2 => absurd h1 (by omega)⟩
  case round =>
    obtain ⟨j, q, hij, hjn, rfl, rfl, HJ⟩ := hrel
    by_cases hgo : j < n ∧ tB L (C.getD j (0, 0)).1 = true
    · obtain ⟨hlt, hle0⟩ := hgo
      have hc1 := A1.row.c1 (k := j) (by rw [HC.out]; omega)
      have hbj := HB.out j hlt
      obtain ⟨Fj, hFj⟩ : ∃ x, x = (C.getD j (0, 0)).1 := ⟨_, rfl⟩
      rw [← hFj] at hc1 hbj hle0
      have hle : Fj - 1 ≤ L := of_decide_eq_true hle0
      have HFj : Hid (Fj = (C.getD j (0, 0)).1) := hFj
      clear hFj hle0
      go_wp2
      go_quiet (fail)
      go_wp2
      go_roundw
      case rel =>
        refine ⟨j + 1, _, by omega, by omega, by go_num, rfl, fun t h1 h2 => ?_⟩
        rcases Nat.lt_or_ge t j with h | h
        · exact HJ.out t h1 h
        · obtain rfl : t = j := by omega
          unfold tB; rw [← HFj.out]; exact decide_eq_true hle
      case measure => simp [intOf]; omega
    · have HIX : Hid (Ix (C.take n) F L i j) := ix_of (by rw [HC.out]; exact hnc) hij hjn HI1.out HI2.out HJ.out (fun h => by cases ht : tB L (C.getD j (0, 0)).1 with | false => rfl | true => exact absurd ⟨h, ht⟩ hgo)
      obtain ⟨Fj, hFj⟩ : ∃ x, x = (C.getD j (0, 0)).1 := ⟨_, rfl⟩
      rcases (show (j < n ∧ ¬ Fj - 1 ≤ L) ∨ ¬ j < n from by
        by_cases h : j < n
        · refine .inl ⟨h, fun h2 => hgo ⟨h, ?_⟩⟩
          rw [← hFj]; exact decide_eq_true h2
        · exact .inr h) with ⟨hlt, hle⟩ | hlt
      · have hc1 := A1.row.c1 (k := j) (by rw [HC.out]; omega)
        have hbj := HB.out j hlt
        rw [← hFj] at hc1 hbj
        clear hgo hFj HI1 HI2 HJ
        go_wp2
        go_quiet (fail)
        clear hc1 hbj
        by_cases hij2 : i < j
        · obtain ⟨Fi, hFi⟩ : ∃ x, x = (C.getD i (0, 0)).1 := ⟨_, rfl⟩
          obtain ⟨Lj, hLj⟩ : ∃ x, x = (C.getD (j - 1) (0, 0)).2 := ⟨_, rfl⟩
          have hci := A1.row.c1 (k := i) (by rw [HC.out]; omega)
          have hcj := A1.row.c2 (k := j - 1) (by rw [HC.out]; omega)
          rw [← hFi] at hci
          rw [← hLj] at hcj
          have HRS : Hid (res (C.take n) F L i j = (C.take n).take i ++ ((minI F Fi, maxI L Lj) :: (C.take n).drop j)) := by
            unfold Hid res
            rw [if_pos hij2, getD_take (by omega), getD_take (by omega), hFi, hLj]
          clear hFi hLj
          have hwr : IntKind.i64.wrap ((j : Int) - 1) = (j : Int) - 1 := by rw [IntKind.wrap_i64]; omega
          have hb1 : (0 : Int) ≤ (j : Int) - 1 := by omega
          have hb2 : (j : Int) - 1 < (n : Int) := by omega
          have htn : ((j : Int) - 1).toNat = j - 1 := by omega
          have hb3 : i < n := by omega
          go_wp2
          go_big_region
          have A2 := (A1.drewN (q + nq + 1)).setr (minI F Fi) (maxI L Lj)
          unfold minI maxI at A2
          generalize (((w1.drewN (q + nq + 1)).setCell ⟨w.heap.size, 0, none⟩ (Value.int IntKind.i64 (if Fi < F then Fi else F))).setCell ⟨w.heap.size, 1, none⟩ (Value.int IntKind.i64 (if L < Lj then Lj else L))) = W at A2 ⊢
          have hmn : (if Fi < F then Fi else F) = minI F Fi := rfl
          have hmx : (if L < Lj then Lj else L) = maxI L Lj := rfl
          rw [hmn, hmx] at A2 ⊢
          clear hmn hmx hwr hb1 hb2 htn hb3 hci hcj e1 e2 e3 e4 e5 e6
          obtain ⟨e1, e2, e3, e4, e5, e6⟩ := A2.facts
          have hWg := A2.row.lt
          have hWs := A2.size
          go_wp2_with fail
          refine (replace_any g W.heap.size n cap i j C (minI F Fi, maxI L Lj) _ (A2.alloc _).row (heap_alloc_new W _) (by omega) HC.out hij hjn hnc (fun h => absurd h (by omega)) (by omega)).mono ?_
          rintro e w' ⟨m, C', rfl, hm, hR', hC', hT', hG'⟩
          have A3 := fin_add A2 hR' hG'
          have hbc := A3.bcell
          have hbf := A3.bfree
          clear e1 e2 e3 e4 e5 e6
          have HT' : Hid _ := hT'
          have HC' : Hid _ := hC'
          clear hT' hC'
          go_wp2
          go_end0
          exact ⟨i, j, m, g, cap, C', rfl, HIX.out, (A3.done _).1, (A3.done _).2.2.2, (A3.done _).2.1, HC'.out, hm, HT'.out.trans HRS.out.symm, (A3.done _).2.2.1, .inl ⟨rfl, rfl⟩, A3.bsg⟩
        · obtain rfl : j = i := by omega
          by_cases hn4 : 1024 ≤ n
          · have HLN : Hid ((C.take n).length = 1024) := by unfold Hid; rw [List.length_take, HC.out]; omega
            obtain ⟨F0, hF0⟩ : ∃ x, x = (C.getD 0 (0, 0)).1 := ⟨_, rfl⟩
            have hc0 := A1.row.c1 (k := 0) (by rw [HC.out]; omega)
            rw [← hF0, Nat.zero_mul] at hc0
            have hb3 : 0 < n := by omega
            by_cases hi1 : j ≤ 1
            · obtain ⟨L0, hL0⟩ : ∃ x, x = (C.getD 0 (0, 0)).2 := ⟨_, rfl⟩
              have hc0b := A1.row.c2 (k := 0) (by rw [HC.out]; omega)
              rw [← hL0, Nat.zero_mul, Nat.zero_add] at hc0b
              have HRS : Hid (res (C.take n) F L j j = (C.take n).take 0 ++ ((minI F F0, maxI L L0) :: (C.take n).drop 1)) := by
                unfold Hid res
                rw [if_neg (by omega), if_pos HLN.out, if_pos hi1, getD_take (by omega), hF0, hL0]
                rfl
              clear hF0 hL0
              go_wp2
              go_big_region
              have A2 := (A1.drewN (q + nq + 1)).setr (minI F F0) (maxI L L0)
              unfold minI maxI at A2
              generalize (((w1.drewN (q + nq + 1)).setCell ⟨w.heap.size, 0, none⟩ (Value.int IntKind.i64 (if F0 < F then F0 else F))).setCell ⟨w.heap.size, 1, none⟩ (Value.int IntKind.i64 (if L < L0 then L0 else L))) = W at A2 ⊢
              have hmn : (if F0 < F then F0 else F) = minI F F0 := rfl
              have hmx : (if L < L0 then L0 else L) = maxI L L0 := rfl
              rw [hmn, hmx] at A2 ⊢
              clear hmn hmx hc0 hc0b e1 e2 e3 e4 e5 e6
              obtain ⟨e1, e2, e3, e4, e5, e6⟩ := A2.facts
              have hWg := A2.row.lt
              have hWs := A2.size
              go_wp2_with fail
              refine (replace_any g W.heap.size n cap 0 1 C (minI F F0, maxI L L0) _ (A2.alloc _).row (heap_alloc_new W _) (by omega) HC.out (by omega) (by omega) hnc (fun h => absurd h (by omega)) (by omega)).mono ?_
              rintro e w' ⟨m, C', rfl, hm, hR', hC', hT', hG'⟩
              have A3 := fin_add A2 hR' hG'
              have hbc := A3.bcell
              have hbf := A3.bfree
              clear e1 e2 e3 e4 e5 e6
              have HT' : Hid _ := hT'
              have HC' : Hid _ := hC'
              clear hT' hC'
              go_wp2
              go_end0
              exact ⟨j, j, m, g, cap, C', rfl, HIX.out, (A3.done _).1, (A3.done _).2.2.2, (A3.done _).2.1, HC'.out, hm, HT'.out.trans HRS.out.symm, (A3.done _).2.2.1, .inl ⟨rfl, rfl⟩, A3.bsg⟩
            · have hb4 : 1 < n := by omega
              have hc1x := A1.row.c1 (k := 1) (by rw [HC.out]; omega)
              have hf2 := A1.row.free (1 * 2)
              rw [Nat.one_mul] at hc1x hf2
              obtain ⟨u, hu⟩ : ∃ u : Nat, u = j - 1 := ⟨_, rfl⟩
              have huj : (j : Int) - 1 = (u : Int) := by omega
              have HU : Hid (u = j - 1) := hu
              have HF0 : Hid (F0 = (C.getD 0 (0, 0)).1) := hF0
              clear hF0 hu
              go_wp2
              go_big_region
              have A2 := (A1.drewN (q + nq + 1)).setf 1 (by rw [HC.out]; omega) F0
              rw [Nat.one_mul] at A2
              generalize ((w1.drewN (q + nq + 1)).setCell ⟨g, 2, none⟩ (Value.int IntKind.i64 F0)) = W at A2 ⊢
              clear hc0 hc1x hf2 e1 e2 e3 e4 e5 e6
              obtain ⟨e1, e2, e3, e4, e5, e6⟩ := A2.facts
              have HC2 : Hid ((putp C 1 [(F0, (C.getD 1 (0, 0)).2)]).length = cap) := by unfold Hid; rw [putp_length (by rw [HC.out]; simp; omega)]; exact HC.out
              go_wp2_with fail
              refine (delete_any g n cap _ _ A2.row HC2.out (by omega) hnc (by omega)).mono ?_
              rintro e w2 ⟨rfl, hR2, hG2⟩
              have A3 := A2.rowed hR2 hG2
              clear e1 e2 e3 e4 e5 e6
              obtain ⟨e1, e2, e3, e4, e5, e6⟩ := A3.facts
              have A4 := A3.sets (.slice (some ⟨g, 0, none⟩) (n - 1) cap)
              have hWg := A4.row.lt
              have HD : Hid _ := del_get (C := putp C 1 [(F0, (C.getD 1 (0, 0)).2)]) (n := n) (by omega) (by rw [HC2.out]; exact hnc)
              have HC4 : Hid ((putp (putp (putp C 1 [(F0, (C.getD 1 (0, 0)).2)]) 0 (((putp C 1 [(F0, (C.getD 1 (0, 0)).2)]).drop 1).take (n - 1))) (n - 1) [(0, 0)]).length = cap) := by
                have hE : (((putp C 1 [(F0, (C.getD 1 (0, 0)).2)]).drop 1).take (n - 1)).length = n - 1 := by rw [List.length_take, List.length_drop, HC2.out]; omega
                unfold Hid
                rw [putp_length (by rw [putp_length (by rw [hE, HC2.out]; omega), HC2.out]; simp; omega), putp_length (by rw [hE, HC2.out]; omega)]
                exact HC2.out
              go_wp2_with fail
              have hsz : w2.heap.size = (w2.setCell ⟨w.heap.size + 1, 0, none⟩ (Value.slice (some ⟨g, 0, none⟩) (n - 1) cap)).heap.size := by simp
              rw [hsz]
              clear hsz hR2 hG2 A3 e1 e2 e3 e4 e5 e6
              generalize (w2.setCell ⟨w.heap.size + 1, 0, none⟩ (Value.slice (some ⟨g, 0, none⟩) (n - 1) cap)) = W4 at A4 hWg ⊢
              refine (replace_any g W4.heap.size (n - 1) cap u u _ (F, L) (W4.alloc (Obj.cells #[Value.int IntKind.i64 F, Value.int IntKind.i64 L] 28)) (A4.alloc _).row (heap_alloc_new W4 _) (by omega) HC4.out (by omega) (by have := HU.out; omega) (by omega) (fun _ => by omega) (by omega)).mono ?_
              rintro e w' ⟨m, C', rfl, hm, hR', hC', hT', hG'⟩
              have A5 := fin_add A4 hR' hG'
              have hbc := A5.bcell
              have hbf := A5.bfree
              have HT' : Hid _ := hT'
              have HC' : Hid _ := hC'
              clear hT' hC'
              go_wp2
              go_end0
              refine ⟨j, j, m, g, cap, C', rfl, HIX.out, (A5.done _).1, (A5.done _).2.2.2, (A5.done _).2.1, HC'.out, hm, HT'.out.trans ?_, (A5.done _).2.2.1, .inl ⟨rfl, rfl⟩, A5.bsg⟩
              exact res_cap HLN.out HC.out hnc (by omega) HF0.out HU.out HD.out
          · have HNL : Hid ((C.take n).length ≠ 1024) := by unfold Hid; rw [List.length_take, HC.out]; omega
            have HRS : Hid (res (C.take n) F L j j = (C.take n).take j ++ ((F, L) :: (C.take n).drop j)) := by
              unfold Hid res
              rw [if_neg (by omega), if_neg HNL.out]
            by_cases hfull : cap ≤ n
            · by_cases hz : n = 0
              · exact absurd hlt (by omega)
              · obtain ⟨c2, hc2⟩ : ∃ c : Nat, c = 2 * n := ⟨_, rfl⟩
                have hc2a : n < c2 := by omega
                have hc2b : c2 ≤ 2048 := by omega
                have hmx : 2 * (n : Int) = (c2 : Int) := by omega
                clear hc2
                go_wp2_with (first
                  | (at_make; refine wpList_make_pairs rfl _ _ 49 rfl Try.underlying49 _ _ n c2 rfl rfl (by omega) (by omega) ?_; intro w2 hR2 hG2; have HE2 : Hid (((C.drop 0).take n).length = n) := (by unfold Hid; rw [List.length_take, List.length_drop, HC.out]; omega); have hR2' : Row w2 w1.heap.size (List.replicate c2 (0, 0)) := hR2; have A2g := (A1.drewN (q + nq)).grown (g2 := w1.heap.size) HR0.out (Nat.le_refl _) hR2' hG2; have hrow2 := (A1.drewN (q + nq)).row.kept hG2 (by simp); clear e1 e2 e3 e4 e5 e6; obtain ⟨e1, e2, e3, e4, e5, e6⟩ := A2g.facts)
                  | (with_reducible refine at_copy ?_; refine wpList_copy_pairs rfl (.tmp 110) (.tmp 111) 49 49 rfl Try.underlying49 w1.heap.size 0 (List.replicate c2 (0, 0)) ((C.drop 0).take n) hR2' (by rw [HE2.out]; simp only [List.length_replicate]; omega) _ _ _ _ ⟨g, 0 * 2, none⟩ rfl rfl (by rw [HE2.out]; exact (Nat.min_self n).symm) (hrow2.rd 0 n) ?_; intro w3 hR3 hG3; have A3 := A2g.rowed hR3 hG3; clear e1 e2 e3 e4 e5 e6; obtain ⟨e1, e2, e3, e4, e5, e6⟩ := A3.facts))
                have hw1s := A1.size
                have A4 := A3.sets (.slice (some ⟨w1.heap.size, 0, none⟩) n c2)
                have hWg := A4.row.lt
                have HG3 : Hid ((putp (List.replicate c2 (0, 0)) 0 ((C.drop 0).take n)).length = c2) := by unfold Hid; rw [putp_length (by rw [HE2.out]; simp only [List.length_replicate]; omega)]; simp
                have HG4 : Hid ((putp (List.replicate c2 (0, 0)) 0 ((C.drop 0).take n)).take n = C.take n) := grown_take HE2.out
                have hsz : w3.heap.size = (w3.setCell ⟨w.heap.size + 1, 0, none⟩ (Value.slice (some ⟨w1.heap.size, 0, none⟩) n c2)).heap.size := by simp
                rw [hsz]
                clear hsz hR2 hR2' hG2 hR3 hG3 A3 A2g hrow2 e1 e2 e3 e4 e5 e6
                generalize (w3.setCell ⟨w.heap.size + 1, 0, none⟩ (Value.slice (some ⟨w1.heap.size, 0, none⟩) n c2)) = W4 at A4 hWg ⊢
                refine (replace_any w1.heap.size W4.heap.size n c2 j j _ (F, L) (W4.alloc (Obj.cells #[Value.int IntKind.i64 F, Value.int IntKind.i64 L] 28)) (A4.alloc _).row (heap_alloc_new W4 _) (by omega) HG3.out (by omega) (by omega) (by omega) (fun _ => by omega) (by omega)).mono ?_
                rintro e w' ⟨m, C', rfl, hm, hR', hC', hT', hG'⟩
                have A5 := fin_add A4 hR' hG'
                have hbc := A5.bcell
                have hbf := A5.bfree
                have HT' : Hid _ := hT'
                have HC' : Hid _ := hC'
                clear hT' hC'
                go_wp2
                go_end0
                refine ⟨j, j, m, w1.heap.size, c2, C', rfl, HIX.out, (A5.done _).1, (A5.done _).2.2.2, (A5.done _).2.1, HC'.out, hm, HT'.out.trans ?_, (A5.done _).2.2.1, .inr ⟨by omega, by omega⟩, A5.bsg⟩
                rw [HG4.out]
                exact HRS.out.symm
            · go_wp2_with fail
              have hWg := (A1.drewN (q + nq)).row.lt
              refine (replace_any g _ n cap j j C (F, L) _ ((A1.drewN (q + nq)).alloc _).row (heap_alloc_new _ _) (by simp at hWg ⊢; omega) HC.out (by omega) hjn hnc (fun _ => by omega) (by omega)).mono ?_
              rintro e w' ⟨m, C', rfl, hm, hR', hC', hT', hG'⟩
              have A3 := fin_add (A1.drewN (q + nq)) hR' hG'
              have hbc := A3.bcell
              have hbf := A3.bfree
              clear e1 e2 e3 e4 e5 e6
              have HT' : Hid _ := hT'
              have HC' : Hid _ := hC'
              clear hT' hC'
              go_wp2
              go_end0
              exact ⟨j, j, m, g, cap, C', rfl, HIX.out, (A3.done _).1, (A3.done _).2.2.2, (A3.done _).2.1, HC'.out, hm, HT'.out.trans HRS.out.symm, (A3.done _).2.2.1, .inl ⟨rfl, rfl⟩, A3.bsg⟩
      · have hd : decide (j < n) = false := decide_eq_false hlt
        clear hgo hFj HI1 HI2 HJ
        go_wp2
        go_quiet (fail)
        clear hd
        by_cases hij2 : i < j
        · obtain ⟨Fi, hFi⟩ : ∃ x, x = (C.getD i (0, 0)).1 := ⟨_, rfl⟩
          obtain ⟨Lj, hLj⟩ : ∃ x, x = (C.getD (j - 1) (0, 0)).2 := ⟨_, rfl⟩
          have hci := A1.row.c1 (k := i) (by rw [HC.out]; omega)
          have hcj := A1.row.c2 (k := j - 1) (by rw [HC.out]; omega)
          rw [← hFi] at hci
          rw [← hLj] at hcj
          have HRS : Hid (res (C.take n) F L i j = (C.take n).take i ++ ((minI F Fi, maxI L Lj) :: (C.take n).drop j)) := by
            unfold Hid res
            rw [if_pos hij2, getD_take (by omega), getD_take (by omega), hFi, hLj]
          clear hFi hLj
          have hwr : IntKind.i64.wrap ((j : Int) - 1) = (j : Int) - 1 := by rw [IntKind.wrap_i64]; omega
          have hb1 : (0 : Int) ≤ (j : Int) - 1 := by omega
          have hb2 : (j : Int) - 1 < (n : Int) := by omega
          have htn : ((j : Int) - 1).toNat = j - 1 := by omega
          have hb3 : i < n := by omega
          go_wp2
          go_big_region
          have A2 := (A1.drewN (q + nq + 1)).setr (minI F Fi) (maxI L Lj)
          unfold minI maxI at A2
          generalize (((w1.drewN (q + nq + 1)).setCell ⟨w.heap.size, 0, none⟩ (Value.int IntKind.i64 (if Fi < F then Fi else F))).setCell ⟨w.heap.size, 1, none⟩ (Value.int IntKind.i64 (if L < Lj then Lj else L))) = W at A2 ⊢
          have hmn : (if Fi < F then Fi else F) = minI F Fi := rfl
          have hmx : (if L < Lj then Lj else L) = maxI L Lj := rfl
          rw [hmn, hmx] at A2 ⊢
          clear hmn hmx hwr hb1 hb2 htn hb3 hci hcj e1 e2 e3 e4 e5 e6
          obtain ⟨e1, e2, e3, e4, e5, e6⟩ := A2.facts
          have hWg := A2.row.lt
          have hWs := A2.size
          go_wp2_with fail
          refine (replace_any g W.heap.size n cap i j C (minI F Fi, maxI L Lj) _ (A2.alloc _).row (heap_alloc_new W _) (by omega) HC.out hij hjn hnc (fun h => absurd h (by omega)) (by omega)).mono ?_
          rintro e w' ⟨m, C', rfl, hm, hR', hC', hT', hG'⟩
          have A3 := fin_add A2 hR' hG'
          have hbc := A3.bcell
          have hbf := A3.bfree
          clear e1 e2 e3 e4 e5 e6
          have HT' : Hid _ := hT'
          have HC' : Hid _ := hC'
          clear hT' hC'
          go_wp2
          go_end0
          exact ⟨i, j, m, g, cap, C', rfl, HIX.out, (A3.done _).1, (A3.done _).2.2.2, (A3.done _).2.1, HC'.out, hm, HT'.out.trans HRS.out.symm, (A3.done _).2.2.1, .inl ⟨rfl, rfl⟩, A3.bsg⟩
        · obtain rfl : j = i := by omega
          by_cases hn4 : 1024 ≤ n
          · have HLN : Hid ((C.take n).length = 1024) := by unfold Hid; rw [List.length_take, HC.out]; omega
            obtain ⟨F0, hF0⟩ : ∃ x, x = (C.getD 0 (0, 0)).1 := ⟨_, rfl⟩
            have hc0 := A1.row.c1 (k := 0) (by rw [HC.out]; omega)
            rw [← hF0, Nat.zero_mul] at hc0
            have hb3 : 0 < n := by omega
            by_cases hi1 : j ≤ 1
            · exact absurd hi1 (by omega)
            · have hb4 : 1 < n := by omega
              have hc1x := A1.row.c1 (k := 1) (by rw [HC.out]; omega)
              have hf2 := A1.row.free (1 * 2)
              rw [Nat.one_mul] at hc1x hf2
              obtain ⟨u, hu⟩ : ∃ u : Nat, u = j - 1 := ⟨_, rfl⟩
              have huj : (j : Int) - 1 = (u : Int) := by omega
              have HU : Hid (u = j - 1) := hu
              have HF0 : Hid (F0 = (C.getD 0 (0, 0)).1) := hF0
              clear hF0 hu
              go_wp2
              go_big_region
              have A2 := (A1.drewN (q + nq + 1)).setf 1 (by rw [HC.out]; omega) F0
              rw [Nat.one_mul] at A2
              generalize ((w1.drewN (q + nq + 1)).setCell ⟨g, 2, none⟩ (Value.int IntKind.i64 F0)) = W at A2 ⊢
              clear hc0 hc1x hf2 e1 e2 e3 e4 e5 e6
              obtain ⟨e1, e2, e3, e4, e5, e6⟩ := A2.facts
              have HC2 : Hid ((putp C 1 [(F0, (C.getD 1 (0, 0)).2)]).length = cap) := by unfold Hid; rw [putp_length (by rw [HC.out]; simp; omega)]; exact HC.out
              go_wp2_with fail
              refine (delete_any g n cap _ _ A2.row HC2.out (by omega) hnc (by omega)).mono ?_
              rintro e w2 ⟨rfl, hR2, hG2⟩
              have A3 := A2.rowed hR2 hG2
              clear e1 e2 e3 e4 e5 e6
              obtain ⟨e1, e2, e3, e4, e5, e6⟩ := A3.facts
              have A4 := A3.sets (.slice (some ⟨g, 0, none⟩) (n - 1) cap)
              have hWg := A4.row.lt
              have HD : Hid _ := del_get (C := putp C 1 [(F0, (C.getD 1 (0, 0)).2)]) (n := n) (by omega) (by rw [HC2.out]; exact hnc)
              have HC4 : Hid ((putp (putp (putp C 1 [(F0, (C.getD 1 (0, 0)).2)]) 0 (((putp C 1 [(F0, (C.getD 1 (0, 0)).2)]).drop 1).take (n - 1))) (n - 1) [(0, 0)]).length = cap) := by
                have hE : (((putp C 1 [(F0, (C.getD 1 (0, 0)).2)]).drop 1).take (n - 1)).length = n - 1 := by rw [List.length_take, List.length_drop, HC2.out]; omega
                unfold Hid
                rw [putp_length (by rw [putp_length (by rw [hE, HC2.out]; omega), HC2.out]; simp; omega), putp_length (by rw [hE, HC2.out]; omega)]
                exact HC2.out
              go_wp2_with fail
              have hsz : w2.heap.size = (w2.setCell ⟨w.heap.size + 1, 0, none⟩ (Value.slice (some ⟨g, 0, none⟩) (n - 1) cap)).heap.size := by simp
              rw [hsz]
              clear hsz hR2 hG2 A3 e1 e2 e3 e4 e5 e6
              generalize (w2.setCell ⟨w.heap.size + 1, 0, none⟩ (Value.slice (some ⟨g, 0, none⟩) (n - 1) cap)) = W4 at A4 hWg ⊢
              refine (replace_any g W4.heap.size (n - 1) cap u u _ (F, L) (W4.alloc (Obj.cells #[Value.int IntKind.i64 F, Value.int IntKind.i64 L] 28)) (A4.alloc _).row (heap_alloc_new W4 _) (by omega) HC4.out (by omega) (by have := HU.out; omega) (by omega) (fun _ => by omega) (by omega)).mono ?_
              rintro e w' ⟨m, C', rfl, hm, hR', hC', hT', hG'⟩
              have A5 := fin_add A4 hR' hG'
              have hbc := A5.bcell
              have hbf := A5.bfree
              have HT' : Hid _ := hT'
              have HC' : Hid _ := hC'
              clear hT' hC'
              go_wp2
              go_end0
              refine ⟨j, j, m, g, cap, C', rfl, HIX.out, (A5.done _).1, (A5.done _).2.2.2, (A5.done _).2.1, HC'.out, hm, HT'.out.trans ?_, (A5.done _).2.2.1, .inl ⟨rfl, rfl⟩, A5.bsg⟩
              exact res_cap HLN.out HC.out hnc (by omega) HF0.out HU.out HD.out
          · have HNL : Hid ((C.take n).length ≠ 1024) := by unfold Hid; rw [List.length_take, HC.out]; omega
            have HRS : Hid (res (C.take n) F L j j = (C.take n).take j ++ ((F, L) :: (C.take n).drop j)) := by
              unfold Hid res
              rw [if_neg (by omega), if_neg HNL.out]
            by_cases hfull : cap ≤ n
            · by_cases hz : n = 0
              · subst hz
                obtain rfl : j = 0 := by omega
                go_wp2_with (first
                  | (at_make; refine wpList_make_pairs rfl _ _ 49 rfl Try.underlying49 _ _ 0 1 rfl rfl (by omega) (by omega) ?_; intro w2 hR2 hG2; have HE2 : Hid (((C.drop 0).take 0).length = 0) := (by unfold Hid; rw [List.length_take, List.length_drop, HC.out]; omega); have hR2' : Row w2 w1.heap.size (List.replicate 1 (0, 0)) := hR2; have A2g := (A1.drewN (q + nq)).grown (g2 := w1.heap.size) HR0.out (Nat.le_refl _) hR2' hG2; have hrow2 := (A1.drewN (q + nq)).row.kept hG2 (by simp); clear e1 e2 e3 e4 e5 e6; obtain ⟨e1, e2, e3, e4, e5, e6⟩ := A2g.facts)
                  | (with_reducible refine at_copy ?_; refine wpList_copy_pairs rfl (.tmp 110) (.tmp 111) 49 49 rfl Try.underlying49 w1.heap.size 0 (List.replicate 1 (0, 0)) ((C.drop 0).take 0) hR2' (by rw [HE2.out]; simp only [List.length_replicate]; omega) _ _ _ _ ⟨g, 0 * 2, none⟩ rfl rfl (by rw [HE2.out]; exact (Nat.min_self 0).symm) (hrow2.rd 0 0) ?_; intro w3 hR3 hG3; have A3 := A2g.rowed hR3 hG3; clear e1 e2 e3 e4 e5 e6; obtain ⟨e1, e2, e3, e4, e5, e6⟩ := A3.facts))
                have hw1s := A1.size
                have A4 := A3.sets (.slice (some ⟨w1.heap.size, 0, none⟩) 0 1)
                have hWg := A4.row.lt
                have HG3 : Hid ((putp (List.replicate 1 (0, 0)) 0 ((C.drop 0).take 0)).length = 1) := by unfold Hid; rw [putp_length (by rw [HE2.out]; simp only [List.length_replicate]; omega)]; simp
                have HG4 : Hid ((putp (List.replicate 1 (0, 0)) 0 ((C.drop 0).take 0)).take 0 = C.take 0) := grown_take HE2.out
                have hsz : w3.heap.size = (w3.setCell ⟨w.heap.size + 1, 0, none⟩ (Value.slice (some ⟨w1.heap.size, 0, none⟩) 0 1)).heap.size := by simp
                rw [hsz]
                clear hsz hR2 hR2' hG2 hR3 hG3 A3 A2g hrow2 e1 e2 e3 e4 e5 e6
                generalize (w3.setCell ⟨w.heap.size + 1, 0, none⟩ (Value.slice (some ⟨w1.heap.size, 0, none⟩) 0 1)) = W4 at A4 hWg ⊢
                refine (replace_any w1.heap.size W4.heap.size 0 1 0 0 _ (F, L) (W4.alloc (Obj.cells #[Value.int IntKind.i64 F, Value.int IntKind.i64 L] 28)) (A4.alloc _).row (heap_alloc_new W4 _) (by omega) HG3.out (by omega) (by omega) (by omega) (fun _ => by omega) (by omega)).mono ?_
                rintro e w' ⟨m, C', rfl, hm, hR', hC', hT', hG'⟩
                have A5 := fin_add A4 hR' hG'
                have hbc := A5.bcell
                have hbf := A5.bfree
                have HT' : Hid _ := hT'
                have HC' : Hid _ := hC'
                clear hT' hC'
                go_wp2
                go_end0
                refine ⟨0, 0, m, w1.heap.size, 1, C', rfl, HIX.out, (A5.done _).1, (A5.done _).2.2.2, (A5.done _).2.1, HC'.out, hm, HT'.out.trans ?_, (A5.done _).2.2.1, .inr ⟨by omega, by omega⟩, A5.bsg⟩
                rw [HG4.out]
                exact HRS.out.symm
              · obtain ⟨c2, hc2⟩ : ∃ c : Nat, c = 2 * n := ⟨_, rfl⟩
                have hc2a : n < c2 := by omega
                have hc2b : c2 ≤ 2048 := by omega
                have hmx : 2 * (n : Int) = (c2 : Int) := by omega
                clear hc2
                go_wp2_with (first
                  | (at_make; refine wpList_make_pairs rfl _ _ 49 rfl Try.underlying49 _ _ n c2 rfl rfl (by omega) (by omega) ?_; intro w2 hR2 hG2; have HE2 : Hid (((C.drop 0).take n).length = n) := (by unfold Hid; rw [List.length_take, List.length_drop, HC.out]; omega); have hR2' : Row w2 w1.heap.size (List.replicate c2 (0, 0)) := hR2; have A2g := (A1.drewN (q + nq)).grown (g2 := w1.heap.size) HR0.out (Nat.le_refl _) hR2' hG2; have hrow2 := (A1.drewN (q + nq)).row.kept hG2 (by simp); clear e1 e2 e3 e4 e5 e6; obtain ⟨e1, e2, e3, e4, e5, e6⟩ := A2g.facts)
                  | (with_reducible refine at_copy ?_; refine wpList_copy_pairs rfl (.tmp 110) (.tmp 111) 49 49 rfl Try.underlying49 w1.heap.size 0 (List.replicate c2 (0, 0)) ((C.drop 0).take n) hR2' (by rw [HE2.out]; simp only [List.length_replicate]; omega) _ _ _ _ ⟨g, 0 * 2, none⟩ rfl rfl (by rw [HE2.out]; exact (Nat.min_self n).symm) (hrow2.rd 0 n) ?_; intro w3 hR3 hG3; have A3 := A2g.rowed hR3 hG3; clear e1 e2 e3 e4 e5 e6; obtain ⟨e1, e2, e3, e4, e5, e6⟩ := A3.facts))
                have hw1s := A1.size
                have A4 := A3.sets (.slice (some ⟨w1.heap.size, 0, none⟩) n c2)
                have hWg := A4.row.lt
                have HG3 : Hid ((putp (List.replicate c2 (0, 0)) 0 ((C.drop 0).take n)).length = c2) := by unfold Hid; rw [putp_length (by rw [HE2.out]; simp only [List.length_replicate]; omega)]; simp
                have HG4 : Hid ((putp (List.replicate c2 (0, 0)) 0 ((C.drop 0).take n)).take n = C.take n) := grown_take HE2.out
                have hsz : w3.heap.size = (w3.setCell ⟨w.heap.size + 1, 0, none⟩ (Value.slice (some ⟨w1.heap.size, 0, none⟩) n c2)).heap.size := by simp
                rw [hsz]
                clear hsz hR2 hR2' hG2 hR3 hG3 A3 A2g hrow2 e1 e2 e3 e4 e5 e6
                generalize (w3.setCell ⟨w.heap.size + 1, 0, none⟩ (Value.slice (some ⟨w1.heap.size, 0, none⟩) n c2)) = W4 at A4 hWg ⊢
                refine (replace_any w1.heap.size W4.heap.size n c2 j j _ (F, L) (W4.alloc (Obj.cells #[Value.int IntKind.i64 F, Value.int IntKind.i64 L] 28)) (A4.alloc _).row (heap_alloc_new W4 _) (by omega) HG3.out (by omega) (by omega) (by omega) (fun _ => by omega) (by omega)).mono ?_
                rintro e w' ⟨m, C', rfl, hm, hR', hC', hT', hG'⟩
                have A5 := fin_add A4 hR' hG'
                have hbc := A5.bcell
                have hbf := A5.bfree
                have HT' : Hid _ := hT'
                have HC' : Hid _ := hC'
                clear hT' hC'
                go_wp2
                go_end0
                refine ⟨j, j, m, w1.heap.size, c2, C', rfl, HIX.out, (A5.done _).1, (A5.done _).2.2.2, (A5.done _).2.1, HC'.out, hm, HT'.out.trans ?_, (A5.done _).2.2.1, .inr ⟨by omega, by omega⟩, A5.bsg⟩
                rw [HG4.out]
                exact HRS.out.symm
            · go_wp2_with fail
              have hWg := (A1.drewN (q + nq)).row.lt
              refine (replace_any g _ n cap j j C (F, L) _ ((A1.drewN (q + nq)).alloc _).row (heap_alloc_new _ _) (by simp at hWg ⊢; omega) HC.out (by omega) hjn hnc (fun _ => by omega) (by omega)).mono ?_
              rintro e w' ⟨m, C', rfl, hm, hR', hC', hT', hG'⟩
              have A3 := fin_add (A1.drewN (q + nq)) hR' hG'
              have hbc := A3.bcell
              have hbf := A3.bfree
              clear e1 e2 e3 e4 e5 e6
              have HT' : Hid _ := hT'
              have HC' : Hid _ := hC'
              clear hT' hC'
              go_wp2
              go_end0
              exact ⟨j, j, m, g, cap, C', rfl, HIX.out, (A3.done _).1, (A3.done _).2.2.2, (A3.done _).2.1, HC'.out, hm, HT'.out.trans HRS.out.symm, (A3.done _).2.2.1, .inl ⟨rfl, rfl⟩, A3.bsg⟩
end Go.Proofs.Qxb6603657a.sr

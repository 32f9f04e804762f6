import Derived.Test.Qxb6603657aAdd
namespace Go.Proofs.Qxb6603657a.sr
set_option linter.unusedVariables false
/-- each range holds a number, is within int64 and not at its lowest; each lies below the next with a gap -/
inductive V : List (Int × Int) → Prop where
  | nil : V []
  | one {a b : Int} (h1 : -9223372036854775808 < a) (h2 : a ≤ b) (h3 : b ≤ 9223372036854775807) : V [(a, b)]
  | cons {a b c d : Int} {t : List (Int × Int)} (h1 : -9223372036854775808 < a) (h2 : a ≤ b) (h3 : b < c - 1) (ht : V ((c, d) :: t)) : V ((a, b) :: (c, d) :: t)
theorem V.tail {x : Int × Int} {t : List (Int × Int)} (h : V (x :: t)) : V t := by
  cases h with
  | one => exact .nil
  | cons _ _ _ ht => exact ht
theorem V.all {P : List (Int × Int)} (h : V P) : ∀ x ∈ P, -9223372036854775808 < x.1 ∧ x.1 ≤ x.2 ∧ x.2 ≤ 9223372036854775807 := by
  induction h with
  | nil => intro x hx; cases hx
  | one h1 h2 h3 => intro x hx; simp at hx; subst hx; exact ⟨h1, h2, h3⟩
  | cons h1 h2 h3 ht ih =>
    intro x hx
    rcases List.mem_cons.1 hx with rfl | hx
    · have := ih _ (List.mem_cons_self ..)
      exact ⟨h1, h2, by simp at this ⊢; omega⟩
    · exact ih x hx
theorem V.gap {a b : Int} {t : List (Int × Int)} (h : V ((a, b) :: t)) : ∀ x ∈ t, b < x.1 - 1 := by
  have key : ∀ (P : List (Int × Int)), V P → ∀ a b t, P = (a, b) :: t → ∀ x ∈ t, b < x.1 - 1 := by
    intro P hP
    induction hP with
    | nil => intro a b t e; cases e
    | one => intro a b t e x hx; cases e; cases hx
    | cons h1 h2 h3 ht ih =>
      intro a b t e x hx
      cases e
      rcases List.mem_cons.1 hx with rfl | hx
      · exact h3
      · have h4 := ih _ _ _ rfl x hx
        have h5 := ht.all _ (List.mem_cons_self ..)
        simp at h5
        omega
  exact key _ h a b t rfl
theorem V.mk {a b : Int} {t : List (Int × Int)} (h1 : -9223372036854775808 < a) (h2 : a ≤ b) (h3 : b ≤ 9223372036854775807) (ht : V t) (hg : ∀ x ∈ t, b < x.1 - 1) : V ((a, b) :: t) := by
  cases t with
  | nil => exact .one h1 h2 h3
  | cons y t => exact .cons h1 h2 (hg y (List.mem_cons_self ..)) ht

theorem getD_mem {t : List (Int × Int)} {k : Nat} (h : k < t.length) : t.getD k (0, 0) ∈ t := by
  have e : t.getD k (0, 0) = t[k] := by simp [List.getD, h]
  rw [e]
  exact List.getElem_mem h
/-- THE UNION of a valid list and a range -/
def U : List (Int × Int) → Int → Int → List (Int × Int)
  | [], F, L => [(F, L)]
  | (a, b) :: t, F, L => if b < F - 1 then (a, b) :: U t F L else if L < a - 1 then (F, L) :: (a, b) :: t else U t (minI F a) (maxI L b)
/-- past 1024 the two lowest become one -/
def capU (Q : List (Int × Int)) : List (Int × Int) :=
  if 1024 < Q.length then ((Q.getD 0 (0, 0)).1, (Q.getD 1 (0, 0)).2) :: Q.drop 2 else Q

theorem U_zero : ∀ (j : Nat) (P : List (Int × Int)) (F L : Int), V P → F ≤ L → Ix P F L 0 j →
    U P F L = (if 0 < j then (minI F (P.getD 0 (0, 0)).1, maxI L (P.getD (j - 1) (0, 0)).2) else (F, L)) :: P.drop j := by
  intro j
  induction j with
  | zero =>
    intro P F L hV hFL hI
    cases P with
    | nil => rfl
    | cons x t =>
      obtain ⟨a, b⟩ := x
      have h1 := hI.above 0 (Nat.le_refl _) (by simp)
      have h2 := hI.stop (by simp)
      simp [qB, tB] at h1 h2
      unfold U
      rw [if_neg (by omega), if_pos (by omega)]
      rfl
  | succ j ih =>
    intro P F L hV hFL hI
    cases P with
    | nil => have := hI.jn; simp at this
    | cons x t =>
      obtain ⟨a, b⟩ := x
      have h1 := hI.above 0 (Nat.le_refl _) (by simp)
      have h2 := hI.touch 0 (Nat.le_refl _) (by omega)
      simp [qB, tB] at h1 h2
      have hv := hV.all _ (List.mem_cons_self ..)
      simp at hv
      unfold U
      rw [if_neg (by omega), if_neg (by omega)]
      have hmn : minI F a ≤ F ∧ minI F a ≤ a := by unfold minI; split <;> omega
      have hmx : L ≤ maxI L b ∧ b ≤ maxI L b := by unfold maxI; split <;> omega
      have hI' : Ix t (minI F a) (maxI L b) 0 j := by
        refine ⟨Nat.zero_le _, by have := hI.jn; simp at this; omega, fun k hk => absurd hk (by omega), fun k _ hk => ?_, fun k _ hk => ?_, fun hj => ?_⟩
        · have := hI.above (k + 1) (by omega) (by simp; omega)
          simp [qB] at this ⊢
          omega
        · have := hI.touch (k + 1) (by omega) (by omega)
          simp [tB] at this ⊢
          omega
        · have h3 := hI.stop (by simp; omega)
          have h4 := hV.gap (t.getD j (0, 0)) (getD_mem hj)
          simp [tB] at h3 h4 ⊢
          unfold maxI
          split <;> omega
      rw [ih t _ _ hV.tail (by omega) hI']
      conv => rhs; rw [if_pos (by omega)]
      by_cases hj : 0 < j
      · have hjt : j ≤ t.length := hI'.jn
        have h4 := hV.gap (t.getD 0 (0, 0)) (getD_mem (by omega))
        rw [if_pos hj]
        have h5 := hV.gap (t.getD (j - 1) (0, 0)) (getD_mem (by omega))
        have h6 := hV.all (t.getD (j - 1) (0, 0)) (List.mem_cons_of_mem _ (getD_mem (by omega)))
        have e1 : ((a, b) :: t).getD (j + 1 - 1) (0, 0) = t.getD (j - 1) (0, 0) := by
          obtain ⟨j', rfl⟩ : ∃ j', j = j' + 1 := ⟨j - 1, by omega⟩
          simp
        have e2 : ((a, b) :: t).getD 0 (0, 0) = (a, b) := rfl
        rw [e1, e2, List.drop_succ_cons]
        have e3 : minI (minI F a) (t.getD 0 (0, 0)).1 = minI F a := by
          generalize (t.getD 0 (0, 0)).1 = z at *
          unfold minI
          split <;> split <;> (first | omega | rfl)
        have e4 : maxI (maxI L b) (t.getD (j - 1) (0, 0)).2 = maxI L (t.getD (j - 1) (0, 0)).2 := by
          generalize (t.getD (j - 1) (0, 0)) = z at *
          unfold maxI
          split <;> split <;> (try split) <;> omega
        rw [e3, e4]
      · obtain rfl : j = 0 := by omega
        rfl
theorem U_ix : ∀ (i j : Nat) (P : List (Int × Int)) (F L : Int), V P → F ≤ L → Ix P F L i j →
    U P F L = P.take i ++ ((if i < j then (minI F (P.getD i (0, 0)).1, maxI L (P.getD (j - 1) (0, 0)).2) else (F, L)) :: P.drop j) := by
  intro i
  induction i with
  | zero =>
    intro j P F L hV hFL hI
    rw [U_zero j P F L hV hFL hI]
    rfl
  | succ i ih =>
    intro j P F L hV hFL hI
    obtain ⟨j, rfl⟩ : ∃ j', j = j' + 1 := ⟨j - 1, by have := hI.ij; omega⟩
    cases P with
    | nil => have := hI.jn; simp at this
    | cons x t =>
      obtain ⟨a, b⟩ := x
      have h1 := hI.below 0 (by omega)
      simp [qB] at h1
      have hI' : Ix t F L i j := by
        refine ⟨by have := hI.ij; omega, by have := hI.jn; simp at this; omega, fun k hk => ?_, fun k hk hk2 => ?_, fun k hk hk2 => ?_, fun hj => ?_⟩
        · simpa using hI.below (k + 1) (by omega)
        · simpa using hI.above (k + 1) (by omega) (by simp; omega)
        · simpa using hI.touch (k + 1) (by omega) (by omega)
        · simpa using hI.stop (by simp; omega)
      unfold U
      rw [if_pos (by omega), ih j t F L hV.tail hFL hI', List.take_succ_cons, List.drop_succ_cons, List.cons_append]
      congr 2
      by_cases hij : i < j
      · rw [if_pos hij, if_pos (by omega)]
        obtain ⟨j', rfl⟩ : ∃ j', j = j' + 1 := ⟨j - 1, by omega⟩
        simp
      · rw [if_neg hij, if_neg (by omega)]
/-- WHAT add LEAVES IS THE UNION, CAPPED -/
theorem res_eq (i j : Nat) (P : List (Int × Int)) (F L : Int) (hV : V P) (hP : P.length ≤ 1024) (hFL : F ≤ L) (hI : Ix P F L i j) : res P F L i j = capU (U P F L) := by
  have hU := U_ix i j P F L hV hFL hI
  have hjn := hI.jn
  have hij := hI.ij
  by_cases h : i < j
  · rw [if_pos h] at hU
    have hlen : (U P F L).length ≤ 1024 := by
      rw [hU, List.length_append, List.length_cons, List.length_take, List.length_drop]
      omega
    rw [capU, if_neg (by omega), hU, res, if_pos h]
  · obtain rfl : j = i := by omega
    rw [if_neg h] at hU
    have hlen : (U P F L).length = P.length + 1 := by
      rw [hU, List.length_append, List.length_cons, List.length_take, List.length_drop]
      omega
    by_cases hn : P.length = 1024
    · rw [capU, if_pos (by omega), res, if_neg h, if_pos hn]
      cases P with
      | nil => simp at hn
      | cons x t =>
        obtain ⟨a, b⟩ := x
        have hv := hV.all _ (List.mem_cons_self ..)
        simp at hv
        by_cases hj : j ≤ 1
        · rw [if_pos hj, hU]
          by_cases hj0 : j = 0
          · subst hj0
            have h2 := hI.stop (by simp)
            simp [tB] at h2
            have e1 : minI F a = F := by unfold minI; split <;> omega
            have e2 : maxI L b = b := by unfold maxI; split <;> omega
            simp [e1, e2]
          · obtain rfl : j = 1 := by omega
            have h2 := hI.below 0 (by omega)
            simp [qB] at h2
            have e1 : minI F a = a := by unfold minI; split <;> omega
            have e2 : maxI L b = L := by unfold maxI; split <;> omega
            simp [e1, e2]
        · rw [if_neg hj, hU]
          obtain ⟨j', rfl⟩ : ∃ j', j = j' + 2 := ⟨j - 2, by omega⟩
          cases t with
          | nil => simp at hn
          | cons y t => simp
    · rw [capU, if_neg (by omega), hU, res, if_neg h, if_neg hn]

/-- r is put among P by First -/
def ins : List (Int × Int) → Int → Int → List (Int × Int)
  | [], F, L => [(F, L)]
  | (a, b) :: t, F, L => if F < a then (F, L) :: (a, b) :: t else (a, b) :: ins t F L
/-- the sweep, the open range in hand -/
def sw : Int → Int → List (Int × Int) → List (Int × Int)
  | F, L, [] => [(F, L)]
  | F, L, (a, b) :: t => if a - 1 ≤ L then sw F (maxI L b) t else (F, L) :: sw a b t
def swp : List (Int × Int) → List (Int × Int)
  | [] => []
  | (a, b) :: t => sw a b t
theorem sw_valid : ∀ (t : List (Int × Int)) (a b : Int), V ((a, b) :: t) → sw a b t = (a, b) :: t := by
  intro t
  induction t with
  | nil => intro a b _; rfl
  | cons x t ih =>
    intro a b h
    obtain ⟨c, d⟩ := x
    have h1 := h.gap _ (List.mem_cons_self ..)
    simp only at h1
    unfold sw
    rw [if_neg (by omega), ih c d h.tail]
theorem sw_U : ∀ (t : List (Int × Int)) (F L : Int), V t → F ≤ L → (∀ x ∈ t, F ≤ x.1) → sw F L t = U t F L := by
  intro t
  induction t with
  | nil => intro F L _ _ _; rfl
  | cons x t ih =>
    intro F L h hFL hf
    obtain ⟨a, b⟩ := x
    have h1 := hf _ (List.mem_cons_self ..)
    have h2 := h.all _ (List.mem_cons_self ..)
    simp only at h1 h2
    unfold sw U
    rw [if_neg (c := b < F - 1) (by omega)]
    by_cases h3 : L < a - 1
    · rw [if_pos h3, if_neg (by omega), sw_valid t a b h]
    · have e : minI F a = F := by unfold minI; split <;> omega
      rw [if_neg h3, if_pos (by omega), e]
      exact ih F _ h.tail (by unfold maxI; split <;> omega) fun x hx => hf x (List.mem_cons_of_mem _ hx)
theorem ins_head : ∀ (t : List (Int × Int)) (F L a b : Int), V ((a, b) :: t) → b < F - 1 → ∃ c d t', ins t F L = (c, d) :: t' ∧ b < c - 1 := by
  intro t F L a b h hb
  cases t with
  | nil => exact ⟨F, L, [], rfl, hb⟩
  | cons x t =>
    obtain ⟨c, d⟩ := x
    have h1 := h.gap _ (List.mem_cons_self ..)
    simp only at h1
    unfold ins
    by_cases h2 : F < c
    · rw [if_pos h2]; exact ⟨_, _, _, rfl, hb⟩
    · rw [if_neg h2]; exact ⟨_, _, _, rfl, h1⟩
/-- THE MODEL's SWEEP IS THE UNION -/
theorem swp_ins : ∀ (P : List (Int × Int)) (F L : Int), V P → F ≤ L → swp (ins P F L) = U P F L := by
  intro P
  induction P with
  | nil => intro F L _ _; rfl
  | cons x t ih =>
    intro F L h hFL
    obtain ⟨a, b⟩ := x
    have h2 := h.all _ (List.mem_cons_self ..)
    simp only at h2
    unfold U
    by_cases h3 : b < F - 1
    · rw [if_pos h3]
      obtain ⟨c, d, t', e, hc⟩ := ins_head t F L a b h h3
      have h4 := ih F L h.tail hFL
      rw [e] at h4
      unfold ins
      rw [if_neg (by omega), e]
      show sw a b ((c, d) :: t') = _
      unfold sw
      rw [if_neg (by omega), ← h4]
      rfl
    · rw [if_neg h3]
      by_cases h4 : L < a - 1
      · rw [if_pos h4]
        unfold ins
        rw [if_pos (by omega)]
        show sw F L ((a, b) :: t) = _
        unfold sw
        rw [if_neg (by omega), sw_valid t a b h]
      · rw [if_neg h4]
        have hg := h.gap
        have hmx : L ≤ maxI L b ∧ b ≤ maxI L b := by unfold maxI; split <;> omega
        have hmn : minI F a ≤ F ∧ minI F a ≤ a := by unfold minI; split <;> omega
        rw [← sw_U t (minI F a) (maxI L b) h.tail (by omega) fun x hx => by have := hg x hx; omega]
        unfold ins
        by_cases h5 : F < a
        · rw [if_pos h5]
          have e : minI F a = F := by unfold minI; split <;> omega
          rw [e]
          show sw F L ((a, b) :: t) = _
          rw [sw, if_pos (by omega)]
        · rw [if_neg h5]
          have e : minI F a = a := by unfold minI; split <;> omega
          rw [e]
          have ei : ins t F L = (F, L) :: t := by
            cases t with
            | nil => rfl
            | cons y t =>
              obtain ⟨c, d⟩ := y
              have h6 := hg _ (List.mem_cons_self ..)
              simp only at h6
              unfold ins
              rw [if_pos (by omega)]
          rw [ei]
          show sw a b ((F, L) :: t) = _
          rw [sw, if_pos (by omega)]
          congr 1
          unfold maxI
          split <;> split <;> omega
/-! ## LAW 4's plain part -/
def Cov (Q : List (Int × Int)) (F L : Int) : Prop := ∃ x ∈ Q, x.1 ≤ F ∧ L ≤ x.2
theorem U_low : ∀ (P : List (Int × Int)) (F L : Int) (z : Int), V P → z ≤ F → (∀ x ∈ P, z ≤ x.1) → ∀ x ∈ U P F L, z ≤ x.1 := by
  intro P
  induction P with
  | nil => intro F L z _ hz _ x hx; simp [U] at hx; subst hx; exact hz
  | cons y t ih =>
    intro F L z h hz hP x hx
    obtain ⟨a, b⟩ := y
    have h1 := hP _ (List.mem_cons_self ..)
    simp only at h1
    unfold U at hx
    split at hx
    · rcases List.mem_cons.1 hx with rfl | hx
      · exact h1
      · exact ih F L z h.tail hz (fun x hx => hP x (List.mem_cons_of_mem _ hx)) x hx
    · split at hx
      · rcases List.mem_cons.1 hx with rfl | hx
        · exact hz
        · exact hP x hx
      · refine ih _ _ z h.tail ?_ (fun x hx => hP x (List.mem_cons_of_mem _ hx)) x hx
        unfold minI
        split <;> omega
theorem U_V : ∀ (P : List (Int × Int)) (F L : Int), V P → -9223372036854775808 < F → F ≤ L → L ≤ 9223372036854775807 → V (U P F L) := by
  intro P
  induction P with
  | nil => intro F L _ h1 h2 h3; exact .one h1 h2 h3
  | cons y t ih =>
    intro F L h h1 h2 h3
    obtain ⟨a, b⟩ := y
    have h4 := h.all _ (List.mem_cons_self ..)
    simp only at h4
    unfold U
    split
    · refine V.mk h4.1 h4.2.1 h4.2.2 (ih F L h.tail h1 h2 h3) fun x hx => ?_
      have := U_low t F L (b + 2) h.tail (by omega) (fun x hx => by have := h.gap x hx; omega) x hx
      omega
    · split
      · exact .cons h1 h2 (by omega) h
      · refine ih _ _ h.tail ?_ ?_ ?_
        · unfold minI; split <;> omega
        · unfold minI maxI; split <;> split <;> omega
        · unfold maxI; split <;> omega
theorem U_cov : ∀ (P : List (Int × Int)) (F L : Int), V P → F ≤ L → Cov (U P F L) F L := by
  intro P
  induction P with
  | nil => intro F L _ _; exact ⟨_, List.mem_cons_self .., Int.le_refl _, Int.le_refl _⟩
  | cons y t ih =>
    intro F L h hFL
    obtain ⟨a, b⟩ := y
    unfold U
    split
    · obtain ⟨x, hx, h1, h2⟩ := ih F L h.tail hFL
      exact ⟨x, List.mem_cons_of_mem _ hx, h1, h2⟩
    · split
      · exact ⟨_, List.mem_cons_self .., Int.le_refl _, Int.le_refl _⟩
      · have hmx : L ≤ maxI L b ∧ b ≤ maxI L b := by unfold maxI; split <;> omega
        have hmn : minI F a ≤ F ∧ minI F a ≤ a := by unfold minI; split <;> omega
        obtain ⟨x, hx, h1, h2⟩ := ih (minI F a) (maxI L b) h.tail (by omega)
        exact ⟨x, hx, by omega, by omega⟩
theorem U_keeps : ∀ (P : List (Int × Int)) (F L f l : Int), V P → F ≤ L → Cov P f l → Cov (U P F L) f l := by
  intro P
  induction P with
  | nil => rintro F L f l _ _ ⟨x, hx, _⟩; cases hx
  | cons y t ih =>
    intro F L f l h hFL hc
    obtain ⟨a, b⟩ := y
    obtain ⟨x, hx, h1, h2⟩ := hc
    unfold U
    split
    · rcases List.mem_cons.1 hx with rfl | hx
      · exact ⟨_, List.mem_cons_self .., h1, h2⟩
      · obtain ⟨x', hx', h1', h2'⟩ := ih F L f l h.tail hFL ⟨x, hx, h1, h2⟩
        exact ⟨x', List.mem_cons_of_mem _ hx', h1', h2'⟩
    · split
      · exact ⟨x, List.mem_cons_of_mem _ hx, h1, h2⟩
      · have hmx : L ≤ maxI L b ∧ b ≤ maxI L b := by unfold maxI; split <;> omega
        have hmn : minI F a ≤ F ∧ minI F a ≤ a := by unfold minI; split <;> omega
        rcases List.mem_cons.1 hx with rfl | hx
        · obtain ⟨x', hx', h1', h2'⟩ := U_cov t (minI F a) (maxI L b) h.tail (by omega)
          simp only at h1 h2
          exact ⟨x', hx', by omega, by omega⟩
        · exact ih _ _ f l h.tail (by omega) ⟨x, hx, h1, h2⟩
/-- the highest number -/
def top : List (Int × Int) → Int
  | [] => 0
  | [x] => x.2
  | _ :: y :: t => top (y :: t)
theorem top_cons {x : Int × Int} {t : List (Int × Int)} (h : t ≠ []) : top (x :: t) = top t := by
  cases t with
  | nil => exact absurd rfl h
  | cons y t => rfl
theorem U_ne (P : List (Int × Int)) (F L : Int) : U P F L ≠ [] := by
  induction P generalizing F L with
  | nil => simp [U]
  | cons y t ih =>
    obtain ⟨a, b⟩ := y
    unfold U
    split
    · simp
    · split
      · simp
      · exact ih _ _
theorem V.top_ge : ∀ {P : List (Int × Int)}, V P → ∀ x ∈ P, x.2 ≤ top P := by
  intro P
  induction P with
  | nil => intro _ x hx; cases hx
  | cons y t ih =>
    intro h x hx
    obtain ⟨a, b⟩ := y
    by_cases ht : t = []
    · subst ht; simp at hx; subst hx; exact Int.le_refl _
    · rw [top_cons ht]
      rcases List.mem_cons.1 hx with rfl | hx
      · obtain ⟨z, t', rfl⟩ : ∃ z t', t = z :: t' := by cases t with
          | nil => exact absurd rfl ht
          | cons z t' => exact ⟨z, t', rfl⟩
        have h1 := h.gap z (List.mem_cons_self ..)
        have h2 := h.tail.all z (List.mem_cons_self ..)
        have h3 := ih h.tail z (List.mem_cons_self ..)
        simp only
        omega
      · exact ih h.tail x hx
theorem U_top : ∀ (P : List (Int × Int)) (F L : Int), V P → F ≤ L → top (U P F L) = if P = [] then L else maxI (top P) L := by
  intro P
  induction P with
  | nil => intro F L _ _; rfl
  | cons y t ih =>
    intro F L h hFL
    obtain ⟨a, b⟩ := y
    rw [if_neg (by simp)]
    have h4 := h.all _ (List.mem_cons_self ..)
    simp only at h4
    have h5 := h.top_ge _ (List.mem_cons_self ..)
    simp only at h5
    unfold U
    split
    · rw [top_cons (U_ne t F L), ih F L h.tail hFL]
      split
      · rename_i ht
        subst ht
        show L = maxI b L
        unfold maxI
        split <;> omega
      · rename_i ht; rw [top_cons ht]
    · split
      · rw [top_cons (by simp)]
        unfold maxI
        split <;> omega
      · rw [ih _ _ h.tail (by unfold minI maxI; split <;> split <;> omega)]
        split
        · rename_i ht
          subst ht
          show maxI L b = maxI b L
          unfold maxI
          split <;> split <;> omega
        · rename_i ht
          rw [top_cons ht] at h5 ⊢
          unfold maxI
          split <;> split <;> (try split) <;> omega
/-- the lowest number -/
def bot (P : List (Int × Int)) : Int := (P.getD 0 (0, 0)).1
theorem U_bot : ∀ (P : List (Int × Int)) (F L : Int), V P → F ≤ L → bot (U P F L) = if P = [] then F else minI (bot P) F := by
  intro P
  induction P with
  | nil => intro F L _ _; rfl
  | cons y t ih =>
    intro F L h hFL
    obtain ⟨a, b⟩ := y
    rw [if_neg (by simp)]
    have h4 := h.all _ (List.mem_cons_self ..)
    simp only at h4
    show _ = minI a F
    unfold U
    split
    · show a = minI a F
      unfold minI
      split <;> omega
    · split
      · show F = minI a F
        unfold minI
        split <;> omega
      · rw [ih _ _ h.tail (by unfold minI maxI; split <;> split <;> omega)]
        split
        · unfold minI; split <;> split <;> omega
        · rename_i ht
          obtain ⟨z, t', rfl⟩ : ∃ z t', t = z :: t' := by cases t with
            | nil => exact absurd rfl ht
            | cons z t' => exact ⟨z, t', rfl⟩
          have h1 := h.gap z (List.mem_cons_self ..)
          show minI z.1 (minI F a) = _
          unfold minI
          split <;> split <;> (try split) <;> omega
/-- what is covered changes nothing -/
theorem U_same : ∀ (P : List (Int × Int)) (F L : Int), V P → F ≤ L → Cov P F L → U P F L = P := by
  intro P
  induction P with
  | nil => rintro F L _ _ ⟨x, hx, _⟩; cases hx
  | cons y t ih =>
    intro F L h hFL hc
    obtain ⟨a, b⟩ := y
    obtain ⟨x, hx, h1, h2⟩ := hc
    have h4 := h.all _ (List.mem_cons_self ..)
    simp only at h4
    unfold U
    rcases List.mem_cons.1 hx with rfl | hx
    · simp only at h1 h2
      have e1 : minI F a = a := by unfold minI; split <;> omega
      have e2 : maxI L b = b := by unfold maxI; split <;> omega
      rw [if_neg (by omega), if_neg (by omega), e1, e2]
      cases t with
      | nil => rfl
      | cons z t =>
        obtain ⟨c, d⟩ := z
        have h5 := h.gap _ (List.mem_cons_self ..)
        have h6 := h.tail.all _ (List.mem_cons_self ..)
        simp only at h5 h6
        unfold U
        rw [if_neg (by omega), if_pos (by omega)]
    · have h5 := h.gap x hx
      rw [if_pos (by omega), ih F L h.tail hFL ⟨x, hx, h1, h2⟩]
/-! the cap -/
theorem U_len : ∀ (P : List (Int × Int)) (F L : Int), (U P F L).length ≤ P.length + 1 := by
  intro P
  induction P with
  | nil => intro F L; simp [U]
  | cons y t ih =>
    intro F L
    obtain ⟨a, b⟩ := y
    unfold U
    split
    · have := ih F L; simp; omega
    · split
      · simp
      · have := ih (minI F a) (maxI L b); simp; omega
theorem capU_le {Q : List (Int × Int)} (h : Q.length ≤ 1025) : (capU Q).length ≤ 1024 := by
  unfold capU
  split
  · simp; omega
  · omega
theorem capU_cases (Q : List (Int × Int)) : capU Q = Q ∨ ∃ a b c d t, Q = (a, b) :: (c, d) :: t ∧ capU Q = (a, d) :: t := by
  unfold capU
  split
  · right
    match Q with
    | [] => simp at *
    | [_] => simp at *
    | (a, b) :: (c, d) :: t => exact ⟨a, b, c, d, t, rfl, rfl⟩
  · exact .inl rfl
theorem capU_V {Q : List (Int × Int)} (h : V Q) : V (capU Q) := by
  rcases capU_cases Q with e | ⟨a, b, c, d, t, e1, e2⟩
  · rw [e]; exact h
  · rw [e2]
    subst e1
    have h1 := h.all _ (List.mem_cons_self ..)
    have h2 := h.tail.all _ (List.mem_cons_self ..)
    have h3 := h.gap _ (List.mem_cons_self ..)
    simp only at h1 h2 h3
    exact V.mk h1.1 (by omega) h2.2.2 h.tail.tail h.tail.gap
theorem capU_cov {Q : List (Int × Int)} {f l : Int} (h : V Q) (hc : Cov Q f l) : Cov (capU Q) f l := by
  rcases capU_cases Q with e | ⟨a, b, c, d, t, e1, e2⟩
  · rw [e]; exact hc
  · rw [e2]
    subst e1
    have h1 := h.all _ (List.mem_cons_self ..)
    have h2 := h.tail.all _ (List.mem_cons_self ..)
    have h3 := h.gap _ (List.mem_cons_self ..)
    simp only at h1 h2 h3
    obtain ⟨x, hx, h4, h5⟩ := hc
    rcases List.mem_cons.1 hx with rfl | hx
    · exact ⟨_, List.mem_cons_self .., h4, by simp only at h5 ⊢; omega⟩
    · rcases List.mem_cons.1 hx with rfl | hx
      · exact ⟨_, List.mem_cons_self .., by simp only at h4 ⊢; omega, h5⟩
      · exact ⟨x, List.mem_cons_of_mem _ hx, h4, h5⟩
theorem capU_bot (Q : List (Int × Int)) : bot (capU Q) = bot Q := by
  rcases capU_cases Q with e | ⟨a, b, c, d, t, e1, e2⟩
  · rw [e]
  · rw [e2, e1]; rfl
theorem capU_top (Q : List (Int × Int)) : top (capU Q) = top Q := by
  rcases capU_cases Q with e | ⟨a, b, c, d, t, e1, e2⟩
  · rw [e]
  · rw [e2, e1]
    cases t with
    | nil => rfl
    | cons z t => rfl
theorem capU_ne {Q : List (Int × Int)} (h : Q ≠ []) : capU Q ≠ [] := by
  rcases capU_cases Q with e | ⟨a, b, c, d, t, e1, e2⟩
  · rw [e]; exact h
  · rw [e2]; simp
end Go.Proofs.Qxb6603657a.sr

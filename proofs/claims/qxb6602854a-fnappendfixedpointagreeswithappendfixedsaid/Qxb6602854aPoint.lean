import Derived.Test.Qxb6602854aPlace
/- The plain law of appendFixedPoint: the text laid out in place. Lists of integers; no Go in sight. -/
namespace Go.Proofs.Qxb6602854a.bys
/-- xs laid over T from place i on -/
def put (T : List Int) (i : Nat) (xs : List Int) : List Int := T.take i ++ (xs ++ T.drop (i + xs.length))
/-- the piece T[s:e] -/
def mid (T : List Int) (s e : Nat) : List Int := (T.drop s).take (e - s)
theorem mid_length {T : List Int} {s e : Nat} (h : e ≤ T.length) : (mid T s e).length = e - s := by
  unfold mid; rw [List.length_take, List.length_drop]; omega
theorem mid_get {T : List Int} {s e : Nat} (j : Nat) : (mid T s e)[j]? = if j < e - s then T[s + j]? else none := by
  unfold mid; rw [List.getElem?_take, List.getElem?_drop]
theorem put_nil (T : List Int) (i : Nat) : put T i [] = T := by simp [put]
theorem put_get {T : List Int} {i : Nat} {xs : List Int} (h : i + xs.length ≤ T.length) (j : Nat) :
    (put T i xs)[j]? = if j < i then T[j]? else if j < i + xs.length then xs[j - i]? else T[j]? := by
  unfold put
  rw [List.getElem?_append, List.length_take, Nat.min_eq_left (by omega)]
  by_cases h1 : j < i
  · rw [if_pos h1, if_pos h1, List.getElem?_take, if_pos h1]
  · rw [if_neg h1, if_neg h1, List.getElem?_append]
    by_cases h2 : j < i + xs.length
    · rw [if_pos (by omega), if_pos h2]
    · rw [if_neg (by omega), if_neg h2, List.getElem?_drop]
      congr 1; omega
theorem put_length {T : List Int} {i : Nat} {xs : List Int} (h : i + xs.length ≤ T.length) : (put T i xs).length = T.length := by
  unfold put; simp; omega
theorem put_snoc {T : List Int} {i : Nat} {xs : List Int} (c : Int) (h : i + xs.length < T.length) : (put T i xs).set (i + xs.length) c = put T i (xs ++ [c]) := by
  apply List.ext_getElem?
  intro j
  rw [List.getElem?_set, put_length (by omega), put_get (by omega), put_get (by simp; omega)]
  simp only [List.length_append, List.length_cons, List.length_nil]
  by_cases h0 : i + xs.length = j
  · subst h0
    rw [if_pos rfl, if_pos h, if_neg (by omega), if_pos (by omega), List.getElem?_append_right (by omega)]
    simp
  · rw [if_neg h0]
    by_cases h1 : j < i
    · rw [if_pos h1, if_pos h1]
    · rw [if_neg h1, if_neg h1]
      by_cases h2 : j < i + xs.length
      · rw [if_pos h2, if_pos (by omega), List.getElem?_append_left (by omega)]
      · rw [if_neg h2, if_neg (by omega)]
theorem put_cons {T : List Int} {i : Nat} {xs : List Int} (c : Int) (h : i + 1 + xs.length ≤ T.length) : (put T (i + 1) xs).set i c = put T i (c :: xs) := by
  apply List.ext_getElem?
  intro j
  rw [List.getElem?_set, put_length h, put_get h, put_get (by simp; omega)]
  simp only [List.length_cons]
  by_cases h0 : i = j
  · subst h0
    rw [if_pos rfl, if_pos (by omega), if_neg (by omega), if_pos (by omega)]
    simp
  · rw [if_neg h0]
    by_cases h1 : j < i
    · rw [if_pos h1, if_pos (by omega)]
    · rw [if_neg h1, if_neg (by omega)]
      by_cases h2 : j < i + 1 + xs.length
      · rw [if_pos h2, if_pos (by omega), show j - i = (j - (i + 1)) + 1 by omega, List.getElem?_cons_succ]
      · rw [if_neg h2, if_neg (by omega)]
theorem put_same {T : List Int} {i e : Nat} {xs : List Int} (h : i + xs.length ≤ e) (he : e ≤ T.length) : put T i (xs ++ mid T (i + xs.length) e) = put T i xs := by
  apply List.ext_getElem?
  intro j
  rw [put_get (by rw [List.length_append, mid_length he]; omega), put_get (by omega), List.length_append, mid_length he]
  by_cases h1 : j < i
  · rw [if_pos h1, if_pos h1]
  · rw [if_neg h1, if_neg h1]
    by_cases h2 : j < i + xs.length
    · rw [if_pos h2, if_pos (by omega), List.getElem?_append_left (by omega)]
    · rw [if_neg h2]
      by_cases h3 : j < i + (xs.length + (e - (i + xs.length)))
      · rw [if_pos h3, List.getElem?_append_right (by omega), mid_get, if_pos (by omega)]
        congr 1; omega
      · rw [if_neg h3]
theorem mid_put {T : List Int} {i e : Nat} {xs : List Int} (h : i + xs.length ≤ T.length) (he : e = i + xs.length) : mid (put T i xs) i e = xs := by
  subst he
  apply List.ext_getElem?
  intro j
  rw [mid_get, put_get h]
  by_cases h1 : j < xs.length
  · rw [if_pos (by omega), if_neg (by omega), if_pos (by omega)]
    congr 1; omega
  · rw [if_neg (by omega), List.getElem?_eq_none (by omega)]
theorem put_put_snoc {T : List Int} {i : Nat} (c d : Int) {xs : List Int} (h : i + 2 + xs.length ≤ T.length) : ((put T (i + 2) xs).set i c).set (i + 1) d = put T i (c :: d :: xs) := by
  rw [List.set_comm _ _ (by omega), put_cons d (by omega), put_cons c (by simp; omega)]

/-- the text that appendFixedPoint lays out begins here -/
def lo (neg : Bool) (M s p : Nat) : Nat := (if M - 1 - s ≤ p then M - 1 - p - 2 else s) - (if neg then 1 else 0)
def hi (M s p : Nat) : Nat := if 0 < p ∧ p < M - 1 - s then M else M - 1

/-- the shift of the fraction by one place -/
theorem shift_put {T : List Int} {pt : Nat} (h : pt + 1 ≤ T.length) : (T.take (pt + 1) ++ (mid T pt (T.length - 1) ++ T.drop (pt + 1 + (mid T pt (T.length - 1)).length))).set pt 46 = put T pt (46 :: mid T pt (T.length - 1)) := by
  have h1 : T.take (pt + 1) ++ (mid T pt (T.length - 1) ++ T.drop (pt + 1 + (mid T pt (T.length - 1)).length)) = put T (pt + 1) (mid T pt (T.length - 1)) := rfl
  rw [h1, put_cons 46 (by rw [mid_length (by omega)]; omega)]
theorem mid_split {T : List Int} {s m e : Nat} (h1 : s ≤ m) (h2 : m ≤ e) (h : e ≤ T.length) : mid T s e = mid T s m ++ mid T m e := by
  apply List.ext_getElem?
  intro j
  rw [mid_get, List.getElem?_append]
  rw [mid_length (by omega), mid_get, mid_get]
  by_cases h3 : j < m - s
  · rw [if_pos (by omega), if_pos h3, if_pos h3]
  · rw [if_neg h3]
    by_cases h4 : j < e - s
    · rw [if_pos h4, if_pos (by omega)]; congr 1; omega
    · rw [if_neg h4, if_neg (by omega)]
theorem put_pre {T : List Int} {s m : Nat} {ys : List Int} (h1 : s ≤ m) (h2 : m + ys.length ≤ T.length) : put T s (mid T s m ++ ys) = put T m ys := by
  have hl : (mid T s m).length = m - s := mid_length (by omega)
  apply List.ext_getElem?
  intro j
  rw [put_get (by rw [List.length_append, hl]; omega), put_get h2, List.length_append, hl]
  by_cases h3 : j < s
  · rw [if_pos h3, if_pos (by omega)]
  · rw [if_neg h3]
    by_cases h4 : j < m
    · rw [if_pos h4, if_pos (by omega), List.getElem?_append_left (by omega), mid_get, if_pos (by omega)]
      congr 1; omega
    · rw [if_neg h4]
      by_cases h5 : j < m + ys.length
      · rw [if_pos h5, if_pos (by omega), List.getElem?_append_right (by omega)]
        congr 1; omega
      · rw [if_neg h5, if_neg (by omega)]

/-! ### the three cases of appendFixedPoint -/
section
variable (neg : Bool) (T : List Int) (s p : Nat)
/-- what is appended -/
def out : List Int := fm neg (mid T s (T.length - 1)) (((T.length - 1 - s : Nat) : Int) - 1 - p) p
theorem ds_length (h : s + 2 ≤ T.length) : (mid T s (T.length - 1)).length = T.length - 1 - s := mid_length (by omega)
theorem out_1 (h : s + 2 ≤ T.length) (hp : T.length - 1 - s ≤ p) : out neg T s p = sg neg ++ (48 :: 46 :: zz ((p - (T.length - 1 - s) : Nat) : Int)) ++ mid T s (T.length - 1) := by
  have hl := ds_length T s h
  unfold out
  rw [fm_Ap neg _ _ _ (by omega) (by omega) (by omega), hl]
  rw [zz_none (N := (p : Int) - -((((T.length - 1 - s : Nat) : Int) - 1 - p) + 1) - ((T.length - 1 - s : Nat) : Int)) (by omega)]
  rw [zz_congr (M := -((((T.length - 1 - s : Nat) : Int) - 1 - p) + 1)) (N := ((p - (T.length - 1 - s) : Nat) : Int)) (by omega)]
  simp
theorem out_2 (h : s + 2 ≤ T.length) (hp : p < T.length - 1 - s) (hp0 : 0 < p) : out neg T s p = sg neg ++ (mid T s (T.length - 1 - p) ++ (46 :: mid T (T.length - 1 - p) (T.length - 1))) := by
  have hl := ds_length T s h
  unfold out
  rw [fm_Bp neg _ _ _ (by omega) (by omega) (by omega) (by omega)]
  rw [zz_none (N := (p : Int) - (((mid T s (T.length - 1)).length : Int) - ((((T.length - 1 - s : Nat) : Int) - 1 - p) + 1))) (by omega)]
  rw [show ((((T.length - 1 - s : Nat) : Int) - 1 - p) + 1).toNat = T.length - 1 - p - s by omega]
  rw [mid_split (T := T) (s := s) (m := T.length - 1 - p) (e := T.length - 1) (by omega) (by omega) (by omega)]
  rw [List.take_left' (mid_length (by omega)), List.drop_left' (mid_length (by omega))]
  simp
theorem out_3 (h : s + 2 ≤ T.length) : out neg T s 0 = sg neg ++ mid T s (T.length - 1) := by
  have hl := ds_length T s h
  unfold out
  rw [fm_C neg _ _ _ (by omega) (by omega) (by omega)]
  rw [zz_none (N := (((T.length - 1 - s : Nat) : Int) - 1 - ((0 : Nat) : Int)) + 1 - ((mid T s (T.length - 1)).length : Int)) (by omega)]
  simp

theorem out_length (h : s + 2 ≤ T.length) (hT : T.length ≤ 524288) (hp : p ≤ 65536) : (out neg T s p).length ≤ 1048576 := by
  have hd := ds_length T s h
  have hsg := sg_length neg
  by_cases h1 : T.length - 1 - s ≤ p
  · rw [out_1 neg T s p h h1, List.length_append, List.length_append, hd]
    simp only [List.length_cons, zz_length]
    omega
  · by_cases h0 : 0 < p
    · rw [out_2 neg T s p h (by omega) h0, List.length_append, List.length_append, List.length_cons, mid_length (by omega), mid_length (by omega)]
      omega
    · obtain rfl : p = 0 := by omega
      rw [out_3 neg T s h, List.length_append, hd]
      omega

theorem out_eq (M : Nat) (hM : T.length = M) (h : s + 2 ≤ M) : out neg T s p = fm neg (mid T s (M - 1)) ((M : Int) - 1 - s - 1 - p) p := by
  subst hM
  unfold out
  rw [show ((T.length - 1 - s : Nat) : Int) - 1 - p = (T.length : Int) - 1 - s - 1 - p by omega]

/-- case 1: the text laid out in place is the window, and the rest stands -/
theorem fin_1 (h : s + 2 ≤ T.length) (hp : T.length - 1 - s ≤ p) (hs : (if neg then 1 else 0) + 2 + p - (T.length - 1 - s) ≤ s) :
    (if neg then (put T (T.length - 1 - p - 2) (48 :: 46 :: zz ((p - (T.length - 1 - s) : Nat) : Int))).set (T.length - 1 - p - 3) 45 else put T (T.length - 1 - p - 2) (48 :: 46 :: zz ((p - (T.length - 1 - s) : Nat) : Int))) = put T (lo neg T.length s p) (out neg T s p) := by
  have hz := zz_length ((p - (T.length - 1 - s) : Nat) : Int)
  rw [out_1 neg T s p h hp]
  unfold lo
  rw [if_pos hp]
  cases neg with
  | true =>
    simp only [if_true] at hs ⊢
    rw [show T.length - 1 - p - 2 = (T.length - 1 - p - 3) + 1 by omega, put_cons 45 (by simp only [List.length_cons, hz]; omega)]
    have e := put_same (T := T) (i := T.length - 1 - p - 3) (e := T.length - 1) (xs := 45 :: 48 :: 46 :: zz ((p - (T.length - 1 - s) : Nat) : Int)) (by simp only [List.length_cons, hz]; omega) (by omega)
    refine e.symm.trans ?_
    rw [show T.length - 1 - p - 3 + 1 - 1 = T.length - 1 - p - 3 by omega, show T.length - 1 - p - 3 + (45 :: 48 :: 46 :: zz ((p - (T.length - 1 - s) : Nat) : Int)).length = s by simp only [List.length_cons, hz]; omega]
    simp [sg]
  | false =>
    simp only [Bool.false_eq_true, if_false] at hs ⊢
    have e := put_same (T := T) (i := T.length - 1 - p - 2) (e := T.length - 1) (xs := 48 :: 46 :: zz ((p - (T.length - 1 - s) : Nat) : Int)) (by simp only [List.length_cons, hz]; omega) (by omega)
    refine e.symm.trans ?_
    rw [show T.length - 1 - p - 2 + (48 :: 46 :: zz ((p - (T.length - 1 - s) : Nat) : Int)).length = s by simp only [List.length_cons, hz]; omega]
    simp [sg]
theorem fin_2 (h : s + 2 ≤ T.length) (hp : p < T.length - 1 - s) (hp0 : 0 < p) (hs : (if neg then 1 else 0) ≤ s) :
    (if neg then (put T (T.length - 1 - p) (46 :: mid T (T.length - 1 - p) (T.length - 1))).set (s - 1) 45 else put T (T.length - 1 - p) (46 :: mid T (T.length - 1 - p) (T.length - 1))) = put T (lo neg T.length s p) (out neg T s p) := by
  have hm := mid_length (T := T) (s := T.length - 1 - p) (e := T.length - 1) (by omega)
  have hm2 := mid_length (T := T) (s := s) (e := T.length - 1 - p) (by omega)
  rw [out_2 neg T s p h hp hp0]
  unfold lo
  rw [if_neg (show ¬ T.length - 1 - s ≤ p by omega), ← put_pre (s := s) (T := T) (by omega) (by simp only [List.length_cons, hm]; omega)]
  cases neg with
  | true =>
    simp only [if_true] at hs ⊢
    obtain ⟨s', rfl⟩ : ∃ s', s = s' + 1 := ⟨s - 1, by omega⟩
    rw [show s' + 1 - 1 = s' by omega, put_cons 45 (by simp only [List.length_append, List.length_cons, hm, hm2]; omega)]
    simp [sg]
  | false => simp [sg]
theorem fin_3 (h : s + 2 ≤ T.length) (hs : (if neg then 1 else 0) ≤ s) :
    (if neg then T.set (s - 1) 45 else T) = put T (lo neg T.length s 0) (out neg T s 0) := by
  rw [out_3 neg T s h]
  unfold lo
  rw [if_neg (show ¬ T.length - 1 - s ≤ 0 by omega)]
  cases neg with
  | true =>
    simp only [if_true] at hs ⊢
    obtain ⟨s', rfl⟩ : ∃ s', s = s' + 1 := ⟨s - 1, by omega⟩
    have e1 : T.set s' 45 = put T s' [45] := by
      have := put_cons (T := T) (i := s') (xs := []) 45 (by simp; omega)
      rw [put_nil] at this; exact this
    rw [show s' + 1 - 1 = s' by omega, e1, ← put_same (T := T) (i := s') (e := T.length - 1) (xs := [45]) (by simp; omega) (by omega)]
    simp [sg]
  | false =>
    simp only [Bool.false_eq_true, if_false]
    have := put_same (T := T) (i := s) (e := T.length - 1) (xs := []) (by simp; omega) (by omega)
    rw [put_nil] at this
    refine this.symm.trans ?_
    simp [sg]
/-- the window's end -/
theorem lo_hi (h : s + 2 ≤ T.length) (hs : (if neg then 1 else 0) + (if T.length - 1 - s ≤ p then 2 + p - (T.length - 1 - s) else 0) ≤ s) :
    lo neg T.length s p + (out neg T s p).length = hi T.length s p := by
  unfold lo hi
  have hsg : (sg neg).length = if neg then 1 else 0 := by cases neg <;> rfl
  have hd := ds_length T s h
  generalize hN : (if neg then 1 else 0) = N at hs hsg
  by_cases hp : T.length - 1 - s ≤ p
  · rw [out_1 neg T s p h hp, if_pos hp, if_neg (show ¬ (0 < p ∧ p < T.length - 1 - s) by omega), List.length_append, List.length_append, hsg, hd]
    rw [if_pos hp] at hs
    simp only [List.length_cons, zz_length]
    omega
  · rw [if_neg hp]
    rw [if_neg hp] at hs
    by_cases hp0 : 0 < p
    · rw [out_2 neg T s p h (by omega) hp0, if_pos (show 0 < p ∧ p < T.length - 1 - s by omega), List.length_append, List.length_append, List.length_cons, hsg, mid_length (by omega), mid_length (by omega)]
      omega
    · obtain rfl : p = 0 := by omega
      rw [out_3 neg T s h, if_neg (show ¬ (0 < 0 ∧ 0 < T.length - 1 - s) by omega), List.length_append, hsg, hd]
      omega
end
end Go.Proofs.Qxb6602854a.bys

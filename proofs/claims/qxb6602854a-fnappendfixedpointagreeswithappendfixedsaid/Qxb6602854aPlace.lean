/- The plain law of appendFixed: the place-by-place text and the text that appendFixed writes are one. Lists of integers; no Go in sight. -/
namespace Go.Proofs.Qxb6602854a.bys

/-- n zeros, none for n < 0 -/
def zz (N : Int) : List Int := List.replicate N.toNat 48
theorem zz_length (N : Int) : (zz N).length = N.toNat := by simp [zz]
theorem zz_none {N : Int} (h : N ≤ 0) : zz N = [] := by
  unfold zz; rw [show N.toNat = 0 by omega]; rfl
theorem zz_congr {M N : Int} (h : M.toNat = N.toNat) : zz M = zz N := by unfold zz; rw [h]

/-- the character at index i of the digits, a zero where there is none -/
def chr (ds : List Int) (i : Int) : Int := if 0 ≤ i ∧ i < ds.length then ds.getD i.toNat 0 else 48
/-- m characters from index i on -/
def run (ds : List Int) (i : Int) (m : Nat) : List Int := (List.range m).map fun t : Nat => chr ds (i + (t : Int))
theorem run_length (ds : List Int) (i : Int) (m : Nat) : (run ds i m).length = m := by simp [run]
theorem run_succ (ds : List Int) (i : Int) (m : Nat) : run ds i (m + 1) = run ds i m ++ [chr ds (i + m)] := by
  simp [run, List.range_succ]
theorem run_zero (ds : List Int) (i : Int) : run ds i 0 = [] := rfl
theorem run_add (ds : List Int) (i : Int) (m n : Nat) : run ds i (m + n) = run ds i m ++ run ds (i + m) n := by
  induction n with
  | zero => simp [run_zero]
  | succ n ih => rw [← Nat.add_assoc, run_succ, ih, run_succ, List.append_assoc]; congr 3; congr 1; omega
theorem run_out (ds : List Int) (i : Int) (m : Nat) (h : ∀ t : Nat, t < m → ¬ (0 ≤ i + t ∧ i + t < ds.length)) : run ds i m = zz m := by
  induction m with
  | zero => rfl
  | succ m ih =>
    rw [run_succ, ih (fun t ht => h t (by omega))]
    have : chr ds (i + m) = 48 := by unfold chr; rw [if_neg (h m (by omega))]
    rw [this]; unfold zz
    simp [List.replicate_succ']
theorem run_in (ds : List Int) (i m : Nat) (h : i + m ≤ ds.length) : run ds i m = (ds.drop i).take m := by
  induction m with
  | zero => simp [run_zero]
  | succ m ih =>
    rw [run_succ, ih (by omega), List.take_succ_eq_append_getElem (by simp; omega)]
    congr 2
    unfold chr
    rw [if_pos (by omega)]
    have : ((i : Int) + (m : Int)).toNat = i + m := by omega
    rw [this]
    simp [List.getD, List.getElem?_eq_getElem (show i + m < ds.length by omega)]

/-- the sign -/
def sg (neg : Bool) : List Int := if neg then [45] else []
/-- the place-by-place text -/
def fm (neg : Bool) (ds : List Int) (k prec : Int) : List Int :=
  sg neg ++ (run ds (min k 0) ((max k 0).toNat + 1) ++ (if 0 < prec then 46 :: run ds (k + 1) prec.toNat else []))

/-- the text behind t rounds of the model's loop -/
def mdl (ds : List Int) (k : Int) (t : Nat) : List Int :=
  run ds (min k 0) (min t ((max k 0).toNat + 1)) ++ (if (max k 0).toNat + 1 < t then 46 :: run ds (k + 1) (t - ((max k 0).toNat + 1)) else [])
theorem mdl_zero (ds : List Int) (k : Int) : mdl ds k 0 = [] := by simp [mdl, run_zero]
theorem mdl_int (ds : List Int) (k : Int) (t : Nat) (h : t < (max k 0).toNat + 1) : mdl ds k (t + 1) = mdl ds k t ++ [chr ds (k - (max k 0 - t))] := by
  unfold mdl
  rw [if_neg (by omega), if_neg (by omega), show min (t + 1) ((max k 0).toNat + 1) = t + 1 by omega, show min t ((max k 0).toNat + 1) = t by omega, run_succ, List.append_nil, List.append_nil]
  congr 3; omega
theorem mdl_point (ds : List Int) (k : Int) (t : Nat) (h : t = (max k 0).toNat + 1) : mdl ds k (t + 1) = mdl ds k t ++ [46] ++ [chr ds (k - (max k 0 - t))] := by
  unfold mdl
  rw [if_pos (by omega), if_neg (by omega), show min (t + 1) ((max k 0).toNat + 1) = t by omega, show min t ((max k 0).toNat + 1) = t by omega, show t + 1 - ((max k 0).toNat + 1) = 0 + 1 by omega, run_succ, run_zero, List.append_nil, List.append_assoc]
  congr 3; simp; congr 1; omega
theorem mdl_frac (ds : List Int) (k : Int) (t : Nat) (h : (max k 0).toNat + 1 < t) : mdl ds k (t + 1) = mdl ds k t ++ [chr ds (k - (max k 0 - t))] := by
  unfold mdl
  rw [if_pos (by omega), if_pos (by omega), show min (t + 1) ((max k 0).toNat + 1) = (max k 0).toNat + 1 by omega, show min t ((max k 0).toNat + 1) = (max k 0).toNat + 1 by omega, show t + 1 - ((max k 0).toNat + 1) = (t - ((max k 0).toNat + 1)) + 1 by omega, run_succ ds (k + 1), List.append_assoc]
  congr 1
  rw [List.cons_append]
  congr 3
  congr 1
  omega
theorem mdl_length (ds : List Int) (k : Int) (t : Nat) : (mdl ds k t).length ≤ t + 1 := by
  unfold mdl
  rw [List.length_append, run_length]
  split
  · rw [List.length_cons, run_length]; omega
  · simp; omega
theorem sg_length (neg : Bool) : (sg neg).length ≤ 1 := by cases neg <;> simp [sg]
theorem mdl_step {ds : List Int} {k q : Int} {t : Nat} (hq : q = min k 0 + t) (h : k - q ≠ -1) : mdl ds k (t + 1) = mdl ds k t ++ [chr ds q] := by
  have e : k - (max k 0 - t) = q := by omega
  rcases Nat.lt_trichotomy t ((max k 0).toNat + 1) with h1 | h1 | h1
  · rw [mdl_int ds k t h1, e]
  · exact absurd h1 (by omega)
  · rw [mdl_frac ds k t h1, e]
theorem mdl_step_point {ds : List Int} {k q : Int} {t : Nat} (hq : q = min k 0 + t) (h : k - q = -1) : mdl ds k (t + 1) = mdl ds k t ++ [46] ++ [chr ds q] := by
  have e : k - (max k 0 - t) = q := by omega
  rw [mdl_point ds k t (by omega), e]
theorem chr_in {ds : List Int} {q : Int} (h0 : 0 ≤ q) (h1 : q < ds.length) : chr ds q = ds.getD q.toNat 0 := by unfold chr; rw [if_pos ⟨h0, h1⟩]
theorem chr_out {ds : List Int} {q : Int} (h : ¬ (0 ≤ q ∧ q < ds.length)) : chr ds q = 48 := by unfold chr; rw [if_neg h]
theorem chr_nil (q : Int) : chr [] q = 48 := chr_out (by simp)
theorem mdl_end0 (neg : Bool) (ds : List Int) (k prec : Int) (h : prec ≤ 0) : sg neg ++ mdl ds k ((max k 0).toNat + 1) = fm neg ds k prec := by
  unfold fm mdl
  rw [if_neg (by omega), if_neg (by omega), Nat.min_self]
theorem mdl_end1 (neg : Bool) (ds : List Int) (k prec : Int) (h : 0 < prec) : sg neg ++ mdl ds k ((max k 0).toNat + 1 + prec.toNat) = fm neg ds k prec := by
  unfold fm mdl
  rw [if_pos (by omega), if_pos h, Nat.min_eq_right (by omega), Nat.add_sub_cancel_left]

theorem fm_length (neg : Bool) (ds : List Int) (k prec : Int) (hk : k ≤ 65536) (hp : prec ≤ 65536) : (fm neg ds k prec).length ≤ 262144 := by
  unfold fm
  have := sg_length neg
  rw [List.length_append, List.length_append, run_length]
  split
  · rw [List.length_cons, run_length]; omega
  · simp; omega
/-! ### what appendFixed writes, case by case -/
section
variable (neg : Bool) (ds : List Int) (k prec : Int)
/-- below 1, no fraction shown -/
theorem fm_A (hk : k + 1 ≤ 0) (hp : prec ≤ 0) : fm neg ds k prec = sg neg ++ [48] := by
  unfold fm
  rw [if_neg (by omega), show (max k 0).toNat + 1 = 0 + 1 by omega, run_succ, run_zero]
  have : chr ds (min k 0 + (0 : Nat)) = 48 := by unfold chr; rw [if_neg (by omega)]
  rw [this]; simp
theorem frac_A (hk : k + 1 ≤ 0) (hp : 0 < prec) (hd : -prec ≤ k - ds.length + 1) : run ds (k + 1) prec.toNat = zz (-(k + 1)) ++ ds ++ zz (prec - -(k + 1) - ds.length) := by
  rw [show prec.toNat = (-(k + 1)).toNat + (ds.length + (prec - -(k + 1) - ds.length).toNat) by omega, run_add, run_add]
  rw [run_out ds (k + 1) _ (by intro t ht; omega), show k + 1 + ((-(k + 1)).toNat : Int) = ((0 : Nat) : Int) by omega, run_in ds 0 ds.length (by omega), run_out ds _ _ (by intro t ht; omega)]
  rw [List.drop_zero, List.take_length, List.append_assoc]
  rw [zz_congr (N := -(k + 1)) (M := ((-(k + 1)).toNat : Int)) (by omega), zz_congr (N := prec - -(k + 1) - ds.length) (M := ((prec - -(k + 1) - ds.length).toNat : Int)) (by omega)]
theorem fm_Ap (hk : k + 1 ≤ 0) (hp : 0 < prec) (hd : -prec ≤ k - ds.length + 1) : fm neg ds k prec = sg neg ++ [48] ++ [46] ++ zz (-(k + 1)) ++ ds ++ zz (prec - -(k + 1) - ds.length) := by
  unfold fm
  rw [if_pos hp, show (max k 0).toNat + 1 = 0 + 1 by omega, run_succ, run_zero, frac_A ds k prec hk hp hd]
  have : chr ds (min k 0 + (0 : Nat)) = 48 := by unfold chr; rw [if_neg (by omega)]
  rw [this]; simp
theorem int_B (hk : 0 < k + 1) (hn : k + 1 < ds.length) : run ds (min k 0) ((max k 0).toNat + 1) = ds.take (k + 1).toNat := by
  rw [show min k 0 = ((0 : Nat) : Int) by omega, show (max k 0).toNat + 1 = (k + 1).toNat by omega, run_in ds 0 _ (by omega), List.drop_zero]
theorem fm_B (hk : 0 < k + 1) (hn : k + 1 < ds.length) (hp : prec ≤ 0) : fm neg ds k prec = sg neg ++ ds.take (k + 1).toNat := by
  unfold fm
  rw [if_neg (by omega), int_B ds k hk hn, List.append_nil]
theorem fm_Bp (hk : 0 < k + 1) (hn : k + 1 < ds.length) (hp : 0 < prec) (hd : -prec ≤ k - ds.length + 1) : fm neg ds k prec = sg neg ++ ds.take (k + 1).toNat ++ [46] ++ ds.drop (k + 1).toNat ++ zz (prec - (ds.length - (k + 1))) := by
  unfold fm
  rw [if_pos hp, int_B ds k hk hn, show prec.toNat = (ds.length - (k + 1).toNat) + (prec - (ds.length - (k + 1))).toNat by omega, run_add]
  rw [show k + 1 = ((k + 1).toNat : Int) by omega, run_in ds _ _ (by omega), run_out ds _ _ (by intro t ht; omega)]
  rw [List.take_of_length_le (l := ds.drop (k + 1).toNat) (by simp; omega)]
  simp only [List.append_assoc, List.cons_append, List.nil_append, Int.toNat_natCast]
  rw [zz_congr (N := prec - (ds.length - ((k + 1).toNat : Int))) (M := ((prec - (ds.length - ((k + 1).toNat : Int))).toNat : Int)) (by omega)]
theorem int_C (hk : 0 < k + 1) (hn : ds.length ≤ k + 1) : run ds (min k 0) ((max k 0).toNat + 1) = ds ++ zz (k + 1 - ds.length) := by
  rw [show min k 0 = ((0 : Nat) : Int) by omega, show (max k 0).toNat + 1 = ds.length + (k + 1 - ds.length).toNat by omega, run_add, run_in ds 0 _ (by omega), run_out ds _ _ (by intro t ht; omega), List.drop_zero, List.take_length]
  rw [zz_congr (N := k + 1 - ds.length) (M := ((k + 1 - ds.length).toNat : Int)) (by omega)]
theorem fm_C (hk : 0 < k + 1) (hn : ds.length ≤ k + 1) (hp : prec ≤ 0) : fm neg ds k prec = sg neg ++ ds ++ zz (k + 1 - ds.length) := by
  unfold fm
  rw [if_neg (by omega), int_C ds k hk hn, List.append_nil, List.append_assoc]
theorem fm_Cp (hk : 0 < k + 1) (hn : ds.length ≤ k + 1) (hp : 0 < prec) : fm neg ds k prec = sg neg ++ ds ++ zz (k + 1 - ds.length) ++ [46] ++ zz prec := by
  unfold fm
  rw [if_pos hp, int_C ds k hk hn, run_out ds _ _ (by intro t ht; omega)]
  rw [zz_congr (N := prec) (M := (prec.toNat : Int)) (by omega)]
  simp
end
end Go.Proofs.Qxb6602854a.bys

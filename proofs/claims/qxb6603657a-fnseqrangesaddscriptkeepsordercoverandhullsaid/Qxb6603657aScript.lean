import Derived.Test.Qxb6603657aMeet
/- The script's plain law: what stands after k additions. -/
namespace Go.Proofs.Qxb6603657a.sr
open Go.RowKit
def mn (fs : List Int) : Nat → Int
  | 0 => fs.getD 0 0
  | k + 1 => minI (mn fs k) (fs.getD (k + 1) 0)
def mx (ls : List Int) : Nat → Int
  | 0 => ls.getD 0 0
  | k + 1 => maxI (mx ls k) (ls.getD (k + 1) 0)
structure Good (fs ls : List Int) (k : Nat) (P : List (Int × Int)) : Prop where
  v : V P
  len : P.length ≤ 1024
  nil : k = 0 → P = []
  ne : 0 < k → P ≠ []
  cov : ∀ j, j < k → Cov P (fs.getD j 0) (ls.getD j 0)
  lo : 0 < k → bot P = mn fs (k - 1)
  hi : 0 < k → top P = mx ls (k - 1)
theorem Good.zero (fs ls : List Int) : Good fs ls 0 [] := ⟨.nil, by simp, fun _ => rfl, fun h => absurd h (by omega), fun j h => absurd h (by omega), fun h => absurd h (by omega), fun h => absurd h (by omega)⟩
theorem Good.next {fs ls : List Int} {k : Nat} {P : List (Int × Int)} (h : Good fs ls k P) (hf : -9223372036854775808 < fs.getD k 0) (hfl : fs.getD k 0 ≤ ls.getD k 0) (hl : ls.getD k 0 ≤ 9223372036854775807) :
    Good fs ls (k + 1) (capU (U P (fs.getD k 0) (ls.getD k 0))) := by
  have hV := U_V P _ _ h.v hf hfl hl
  refine ⟨capU_V hV, capU_le (by have := U_len P (fs.getD k 0) (ls.getD k 0); have := h.len; omega), fun e => absurd e (by omega), fun _ => capU_ne (U_ne _ _ _), fun j hj => ?_, fun _ => ?_, fun _ => ?_⟩
  · by_cases e : j = k
    · subst e; exact capU_cov hV (U_cov P _ _ h.v hfl)
    · exact capU_cov hV (U_keeps P _ _ _ _ h.v hfl (h.cov j (by omega)))
  · rw [capU_bot, U_bot P _ _ h.v hfl, Nat.add_sub_cancel]
    cases k with
    | zero => rw [if_pos (h.nil rfl)]; rfl
    | succ k => rw [if_neg (h.ne (by omega)), h.lo (by omega)]; rfl
  · rw [capU_top, U_top P _ _ h.v hfl, Nat.add_sub_cancel]
    cases k with
    | zero => rw [if_pos (h.nil rfl)]; rfl
    | succ k => rw [if_neg (h.ne (by omega)), h.hi (by omega)]; rfl
/-- what is covered already leaves all as it was -/
theorem add_same {P : List (Int × Int)} {F L : Int} (hV : V P) (hP : P.length ≤ 1024) (hFL : F ≤ L) (hc : Cov P F L) : capU (U P F L) = P := by
  rw [U_same P F L hV hFL hc]
  unfold capU
  rw [if_neg (by omega)]
theorem top_last : ∀ (P : List (Int × Int)), P ≠ [] → top P = (P.getD (P.length - 1) (0, 0)).2
  | [], h => absurd rfl h
  | [x], _ => by simp [top]
  | x :: y :: t, _ => by
    rw [top_cons (by simp), top_last (y :: t) (by simp)]
    simp
theorem cov_at {P : List (Int × Int)} {f l : Int} (h : Cov P f l) : ∃ k, k < P.length ∧ (P.getD k (0, 0)).1 ≤ f ∧ l ≤ (P.getD k (0, 0)).2 := by
  obtain ⟨x, hx, h1, h2⟩ := h
  obtain ⟨k, hk, e⟩ := List.getElem_of_mem hx
  have e2 : P.getD k (0, 0) = x := by simp [List.getD, hk, e]
  exact ⟨k, hk, by rw [e2]; exact h1, by rw [e2]; exact h2⟩
/-- THE SLICE IN HAND: m pairs, P, in block g, made since w0 -/
structure Got (w0 w : World) (g m cap : Nat) (C P : List (Int × Int)) : Prop where
  row : Row w g C
  len : C.length = cap
  mc : m ≤ cap
  cap : cap ≤ 2048
  tk : C.take m = P
  ml : P.length = m
  base : w0.heap.size ≤ g
  old : w0.grownBy w none
theorem Got.drewN {w0 w : World} {g m cap : Nat} {C P : List (Int × Int)} (h : Got w0 w g m cap C P) (q : Nat) : Got w0 (w.drewN q) g m cap C P :=
  ⟨h.row, h.len, h.mc, h.cap, h.tk, h.ml, h.base, grownBy_trans h.old (grownBy_drewN _ _ _)⟩
theorem take_len {C P : List (Int × Int)} {m cap : Nat} (h : C.take m = P) (hl : C.length = cap) (hm : m ≤ cap) : P.length = m := by
  rw [← h, List.length_take]; omega
theorem got_add {w0 w : World} {g m cap : Nat} {C P : List (Int × Int)} (h : Got w0 w g m cap C P) (hV : V P) (hP : P.length ≤ 1024) (F L : Int) (hF : -9223372036854775808 < F) (hFL : F ≤ L) (hL : L ≤ 9223372036854775807) :
    Calls Try.prog 10 #[.slice (some ⟨g, 0, none⟩) m cap, .agg #[.int .i64 F, .int .i64 L]] w fun e w' => ∃ (m' g' cap' : Nat) (C' : List (Int × Int)), e = .returned (.slice (some ⟨g', 0, none⟩) m' cap') ∧ Got w0 w' g' m' cap' C' (capU (U P F L)) := by
  have hml := h.ml
  refine (zzadd_some g m cap C F L w h.row h.len h.mc (by omega) (by have := h.cap; omega) (by rw [h.tk]; exact hV) hF hFL hL).mono ?_
  rintro e w' ⟨m', g', cap', C', rfl, x1, x2, x3, x4, x5, x6⟩
  rw [h.tk] at x4
  have hb := h.base
  have hs := h.old.size
  have hc := h.cap
  have hg : w0.heap.size ≤ g' := by rcases x6 with y | y <;> omega
  exact ⟨m', g', cap', C', rfl, x1, x2, x3, by rcases x6 with y | y <;> omega, x4, take_len x4 x2 x3, hg, grown_none h.old x5 hg⟩
theorem nil_add {w0 w : World} (h : w0.grownBy w none) (F L : Int) :
    Calls Try.prog 10 #[.slice none 0 0, .agg #[.int .i64 F, .int .i64 L]] w fun e w' => ∃ (m' g' cap' : Nat) (C' : List (Int × Int)), e = .returned (.slice (some ⟨g', 0, none⟩) m' cap') ∧ Got w0 w' g' m' cap' C' (capU (U [] F L)) := by
  refine (zzadd_nil F L w).mono ?_
  rintro e w' ⟨m', g', cap', C', rfl, x1, x2, x3, x4, x5, x6, x7⟩
  have hs := h.size
  exact ⟨m', g', cap', C', rfl, x1, x2, x3, x7, x4, take_len x4 x2 x3, by omega, grownBy_trans h x5⟩
theorem Got.at {w0 w : World} {g m cap : Nat} {C P : List (Int × Int)} (h : Got w0 w g m cap C P) {k : Nat} (hk : k < m) : w.cell? ⟨g, k * 2, none⟩ = some (.int .i64 (P.getD k (0, 0)).1) ∧ w.cell? ⟨g, k * 2 + 1, none⟩ = some (.int .i64 (P.getD k (0, 0)).2) := by
  have h1 := h.len
  have h2 := h.mc
  rw [← getD_of_take h.tk hk]
  exact ⟨h.row.c1 (by omega), h.row.c2 (by omega)⟩
theorem got_result {w0 w : World} {g m cap : Nat} {C P : List (Int × Int)} (h : Got w0 w g m cap C P) (hV : V P) (hP : P.length ≤ 1024) :
    Calls Try.prog 13 #[.slice (some ⟨g, 0, none⟩) m cap] w fun e w' => e = .returned (.bool true) ∧ ∃ q, w' = w.drewN q := by
  have h1 := h.len
  have h2 := h.mc
  have h3 := h.ml
  refine result_yes g m cap C w h.row (by omega) (by omega) (fun k hk => ?_) (fun k h0 hk => ?_)
  · rw [getD_of_take h.tk hk]
    exact hV.all _ (getD_mem (by omega))
  · rw [getD_of_take h.tk hk, getD_of_take h.tk (by omega)]
    exact hV.pair (k - 1) k (by omega) (by omega)
theorem got_covered {w0 w : World} {g m cap : Nat} {C P : List (Int × Int)} (h : Got w0 w g m cap C P) (hP : P.length ≤ 1024) (F L : Int) (hc : Cov P F L) :
    Calls Try.prog 14 #[.slice (some ⟨g, 0, none⟩) m cap, .int .i64 F, .int .i64 L] w fun e w' => e = .returned (.bool true) ∧ w' = w := by
  have h1 := h.len
  have h2 := h.mc
  have h3 := h.ml
  obtain ⟨k, hk, h4, h5⟩ := cov_at hc
  exact covered_yes g m cap C F L w h.row (by omega) (by omega) ⟨k, by omega, by rw [getD_of_take h.tk (by omega)]; exact h4, by rw [getD_of_take h.tk (by omega)]; exact h5⟩
theorem got_same {w0 w1 w : World} {g m cap g2 m2 cap2 : Nat} {C D P : List (Int × Int)} (h : Got w0 w g m cap C P) (k : Got w1 w g2 m2 cap2 D P) (hP : P.length ≤ 1024) :
    Calls Try.prog 15 #[.slice (some ⟨g, 0, none⟩) m cap, .slice (some ⟨g2, 0, none⟩) m2 cap2] w fun e w' => e = .returned (.bool true) ∧ ∃ q, w' = w.drewN q := by
  have h1 := h.len
  have h2 := h.mc
  have h3 := h.ml
  have k1 := k.len
  have k2 := k.mc
  have k3 := k.ml
  obtain rfl : m2 = m := by omega
  exact same_yes g g2 m2 cap cap2 C D w h.row k.row (by omega) (by omega) (by omega) (fun j hj => by rw [getD_of_take h.tk hj, getD_of_take k.tk hj])
end Go.Proofs.Qxb6603657a.sr

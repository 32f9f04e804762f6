import Derived.Test.Qxb6603657aTwo
import Derived.Test.Qxb6603657aZZadd
import Derived.Test.Qxb6603657aRes
namespace Go.Proofs.Qxb6603657a.sr
open Go.RowKit
theorem ps_set : ∀ (C : List (Int × Int)) (k : Nat) (a b : Int), ((ps C).set (k * 2) (.int .i64 a)).set (k * 2 + 1) (.int .i64 b) = ps (C.set k (a, b))
  | [], k, a, b => by simp [ps]
  | p :: r, 0, a, b => by simp [ps]
  | p :: r, k + 1, a, b => by
    rw [show (k + 1) * 2 = k * 2 + 1 + 1 by omega]
    simp only [ps, List.set_cons_succ, ps_set r k a b]
/-- one pair is written -/
theorem Row.put2 {w : World} {g : Nat} {C : List (Int × Int)} (h : Row w g C) (k : Nat) (a b : Int) :
    Row ((w.setCell ⟨g, k * 2, none⟩ (.int .i64 a)).setCell ⟨g, k * 2 + 1, none⟩ (.int .i64 b)) g (C.set k (a, b)) ∧ w.grownBy ((w.setCell ⟨g, k * 2, none⟩ (.int .i64 a)).setCell ⟨g, k * 2 + 1, none⟩ (.int .i64 b)) (some g) := by
  have h1 := heap_setCell_same w g (k * 2) _ 28 (.int .i64 a) h
  have h2 := heap_setCell_same _ g (k * 2 + 1) _ 28 (.int .i64 b) h1
  have e : (((ps C).toArray.setIfInBounds (k * 2) (Value.int .i64 a)).setIfInBounds (k * 2 + 1) (Value.int .i64 b)) = (ps (C.set k (a, b))).toArray := by
    apply Array.ext'
    rw [Array.toList_setIfInBounds, Array.toList_setIfInBounds]
    exact ps_set C k a b
  rw [e] at h2
  refine ⟨h2, ⟨rfl, rfl, rfl, by simp, fun j _ hj => ?_⟩⟩
  rw [heap_setCell_other _ _ _ _ (fun e => hj (by rw [e])), heap_setCell_other _ _ _ _ (fun e => hj (by rw [e]))]
theorem set_pairs {C : List (Int × Int)} {k : Nat} {x : Int × Int} (hk : k < C.length) : (C.set k x).take (k + 1) = C.take k ++ [x] := by
  rw [List.take_set, List.take_add_one, List.getElem?_eq_getElem hk]
  simp only [Option.toList]
  rw [List.set_append_right _ _ (by simp; omega)]
  rw [List.length_take, Nat.min_eq_left (by omega)]
  simp
theorem take_more {P : List (Int × Int)} {k : Nat} (hk : k < P.length) : P.take (k + 1) = P.take k ++ [P.getD k (0, 0)] := by
  rw [List.take_add_one, List.getElem?_eq_getElem hk]
  simp [List.getD, hk]
theorem getD_of_take {C D : List (Int × Int)} {n : Nat} (h : C.take n = D) {k : Nat} (hk : k < n) : C.getD k (0, 0) = D.getD k (0, 0) := by
  subst h
  simp only [List.getD, List.getElem?_take, hk, if_true]
/-- valid, from what the loop has tested -/
theorem V_adj : ∀ (P : List (Int × Int)), (∀ k, k < P.length → -9223372036854775808 < (P.getD k (0, 0)).1 ∧ (P.getD k (0, 0)).1 ≤ (P.getD k (0, 0)).2 ∧ (P.getD k (0, 0)).2 ≤ 9223372036854775807) →
    (∀ k, k + 1 < P.length → (P.getD k (0, 0)).2 < (P.getD (k + 1) (0, 0)).1 - 1) → V P
  | [], _, _ => .nil
  | [(a, b)], h, _ => by have := h 0 (by simp); simp at this; exact .one this.1 this.2.1 this.2.2
  | (a, b) :: (c, d) :: t, h, hg => by
    have h0 := h 0 (by simp)
    have h1 := hg 0 (by simp)
    simp at h0 h1
    refine .cons h0.1 h0.2.1 (by omega) (V_adj ((c, d) :: t) (fun k hk => ?_) (fun k hk => ?_))
    · have := h (k + 1) (by simpa using hk); simpa using this
    · have := hg (k + 1) (by simpa using hk); simpa using this
theorem getD_of_mem {zs : List Int} {k : Nat} (hk : k < zs.length) : zs.getD k 0 ∈ zs := by
  have e : zs.getD k 0 = zs[k] := by simp [List.getD, hk]
  rw [e]
  exact List.getElem_mem hk
theorem V_ok {fs ls : List Int} {n : Nat} (hf : fs.length = n) (hl : ls.length = n) (hbf : ∀ z ∈ fs, -9223372036854775808 ≤ z ∧ z ≤ 9223372036854775807) (hbl : ∀ z ∈ ls, -9223372036854775808 ≤ z ∧ z ≤ 9223372036854775807)
    (hok : ∀ k, k < n → okK fs ls k) : V (fs.zip ls) := by
  have hz : (fs.zip ls).length = n := by simp [hf, hl]
  refine V_adj _ (fun k hk => ?_) (fun k hk => ?_)
  · rw [zip_get hf hl (by omega)]
    have h1 := hbf _ (getD_of_mem (zs := fs) (k := k) (by omega))
    have h2 := hbl _ (getD_of_mem (zs := ls) (k := k) (by omega))
    have h3 := (hok k (by omega)).1
    simp only [v1, Bool.or_eq_false_iff, decide_eq_false_iff_not] at h3
    simp only
    omega
  · rw [zip_get hf hl (by omega), zip_get hf hl (by omega)]
    have h3 := (hok (k + 1) (by omega)).2
    simp only [v2, Bool.and_eq_false_iff, decide_eq_false_iff_not, Nat.add_sub_cancel] at h3
    simp only
    omega
theorem ins_mem : ∀ (P : List (Int × Int)) (F L : Int) (x : Int × Int), x ∈ ins P F L → x = (F, L) ∨ x ∈ P
  | [], F, L, x, h => by simp [ins] at h; exact .inl h
  | (a, b) :: t, F, L, x, h => by
    unfold ins at h
    split at h
    · simpa using h
    · rcases List.mem_cons.1 h with h | h
      · exact .inr (by simp [h])
      · rcases ins_mem t F L x h with h | h
        · exact .inl h
        · exact .inr (List.mem_cons_of_mem _ h)
end Go.Proofs.Qxb6603657a.sr

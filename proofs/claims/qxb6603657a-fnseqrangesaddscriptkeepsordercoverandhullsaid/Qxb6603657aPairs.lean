import Derived.Test.Qxb6603657aRows
import Derived.WalkKit
import Derived.Deep.AppendSrc
import Derived.Laws.CopyOwn
import Derived.Deep.Draws
/- A []SeqRange in memory: a block of pairs, its spare room too; copy, append within the capacity, clear, at the level of pairs. -/
namespace Go.Proofs.Qxb6603657a.sr
open Go.RowKit

theorem info28 : (Try.prog.info? 28).map (fun i => (i.zero, i.size, i.bytes)) = some (some (.agg #[.int .i64 0, .int .i64 0]), 2, 16) := by kernel_rfl

def ps : List (Int × Int) → List Value
  | [] => []
  | p :: r => .int .i64 p.1 :: .int .i64 p.2 :: ps r
theorem ps_length : ∀ C : List (Int × Int), (ps C).length = C.length * 2
  | [] => rfl
  | p :: r => by simp only [ps, List.length_cons, ps_length r]; omega
theorem ps_append : ∀ C D : List (Int × Int), ps (C ++ D) = ps C ++ ps D
  | [], _ => rfl
  | p :: r, D => by simp only [List.cons_append, ps, ps_append r D]
theorem ps_take : ∀ (C : List (Int × Int)) (n : Nat), (ps C).take (n * 2) = ps (C.take n)
  | [], n => by simp [ps]
  | p :: r, 0 => by simp [ps]
  | p :: r, n + 1 => by
    rw [show (n + 1) * 2 = n * 2 + 1 + 1 by omega]
    simp only [ps, List.take_succ_cons, ps_take r n]
theorem ps_drop : ∀ (C : List (Int × Int)) (n : Nat), (ps C).drop (n * 2) = ps (C.drop n)
  | [], n => by simp [ps]
  | p :: r, 0 => by simp [ps]
  | p :: r, n + 1 => by
    rw [show (n + 1) * 2 = n * 2 + 1 + 1 by omega]
    simp only [ps, List.drop_succ_cons, ps_drop r n]
theorem ps_get1 : ∀ (C : List (Int × Int)) (k : Nat), k < C.length → (ps C)[k * 2]? = some (.int .i64 (C.getD k (0, 0)).1)
  | [], k, h => by simp at h
  | p :: r, 0, _ => by simp [ps]
  | p :: r, k + 1, h => by
    rw [show (k + 1) * 2 = k * 2 + 1 + 1 by omega]
    simp only [ps, List.getElem?_cons_succ, ps_get1 r k (by simpa using h), List.getD_cons_succ]
theorem ps_get2 : ∀ (C : List (Int × Int)) (k : Nat), k < C.length → (ps C)[k * 2 + 1]? = some (.int .i64 (C.getD k (0, 0)).2)
  | [], k, h => by simp at h
  | p :: r, 0, _ => by simp [ps]
  | p :: r, k + 1, h => by
    rw [show (k + 1) * 2 + 1 = k * 2 + 1 + 1 + 1 by omega]
    simp only [ps, List.getElem?_cons_succ, ps_get2 r k (by simpa using h), List.getD_cons_succ]
theorem ps_one : ∀ (C : List (Int × Int)), ∀ u ∈ ps C, u.oneCell' = true
  | [], u, h => by simp [ps] at h
  | p :: r, u, h => by
    simp only [ps, List.mem_cons] at h
    rcases h with rfl | rfl | h
    · rfl
    · rfl
    · exact ps_one r u h

/-- E laid over C from element o on -/
def putp (C : List (Int × Int)) (o : Nat) (E : List (Int × Int)) : List (Int × Int) := C.take o ++ (E ++ C.drop (o + E.length))
theorem ps_putp (C : List (Int × Int)) (o : Nat) (E : List (Int × Int)) : ps (putp C o E) = (ps C).take (o * 2) ++ ps E ++ (ps C).drop (o * 2 + (ps E).length) := by
  unfold putp
  rw [ps_append, ps_append, ps_take, ps_length, show o * 2 + E.length * 2 = (o + E.length) * 2 by omega, ps_drop, List.append_assoc]
theorem putp_length {C : List (Int × Int)} {o : Nat} {E : List (Int × Int)} (h : o + E.length ≤ C.length) : (putp C o E).length = C.length := by
  unfold putp; simp; omega
theorem putp_nil (C : List (Int × Int)) (o : Nat) : putp C o [] = C := by simp [putp]

/-- BLOCK g HOLDS THE PAIRS C, AND NOTHING ELSE. -/
def Row (w : World) (g : Nat) (C : List (Int × Int)) : Prop := w.heap[g]? = some (.cells (ps C).toArray 28 (0, 0))
section
variable {w : World} {g : Nat} {C : List (Int × Int)}
theorem Row.at (h : Row w g C) (o : Nat) : w.cell? ⟨g, o, none⟩ = (ps C)[o]? := by
  rw [cell_of_row w g o _ 28 (0, 0) h]; simp
theorem Row.c1 (h : Row w g C) {k : Nat} (hk : k < C.length) : w.cell? ⟨g, k * 2, none⟩ = some (.int .i64 (C.getD k (0, 0)).1) := by rw [h.at, ps_get1 C k hk]
theorem Row.c2 (h : Row w g C) {k : Nat} (hk : k < C.length) : w.cell? ⟨g, k * 2 + 1, none⟩ = some (.int .i64 (C.getD k (0, 0)).2) := by rw [h.at, ps_get2 C k hk]
theorem Row.free (h : Row w g C) (o : Nat) : w.frozen? ⟨g, o, none⟩ = false := by
  have := h
  unfold Row at this
  simp [World.frozen?, this]
theorem Row.lt (h : Row w g C) : g < w.heap.size := (Array.getElem?_eq_some_iff.1 h).1
theorem Row.kept {w' : World} {r : Option Nat} (h : Row w g C) (hg : w.grownBy w' r) (hne : r ≠ some g) : Row w' g C := by
  unfold Row
  rw [hg.block g h.lt (fun e => hne e.symm)]
  exact h
theorem Row.set (h : Row w g C) (D : List (Int × Int)) : Row (w.setRow g (ps D).toArray) g D ∧ w.grownBy (w.setRow g (ps D).toArray) (some g) :=
  ⟨setRow_heap w g _ _ 28 _ h, ⟨rfl, rfl, rfl, by simp, fun k _ hk => setRow_other w g k _ (fun e => hk (by rw [e]))⟩⟩
theorem Row.drew (h : Row w g C) : Row w.drew g C := h
theorem Row.drewN (h : Row w g C) (q : Nat) : Row (w.drewN q) g C := h
end
theorem grownBy_refl (w : World) (r : Option Nat) : w.grownBy w r := ⟨rfl, rfl, rfl, Nat.le_refl _, fun _ _ _ => rfl⟩
theorem grownBy_trans {w w1 w2 : World} {r : Option Nat} (h : w.grownBy w1 r) (k : w1.grownBy w2 r) : w.grownBy w2 r :=
  ⟨k.os.trans h.os, k.tape.trans h.tape, k.output.trans h.output, Nat.le_trans h.size k.size, fun j hj hne => (k.block j (Nat.lt_of_lt_of_le hj h.size) hne).trans (h.block j hj hne)⟩
theorem grownBy_drew (w : World) (r : Option Nat) : w.grownBy w.drew r := ⟨rfl, rfl, rfl, Nat.le_refl _, fun _ _ _ => rfl⟩
theorem grownBy_drewN (w : World) (r : Option Nat) (q : Nat) : w.grownBy (w.drewN q) r := ⟨rfl, rfl, rfl, Nat.le_refl _, fun _ _ _ => rfl⟩

/-- the one law of memory: pairs stored from element o on -/
theorem run_store_pairs {w : World} {g o : Nat} {C E : List (Int × Int)} (h : Row w g C) (hfit : o + E.length ≤ C.length) :
    (storeCells ⟨g, o * 2, none⟩ (ps E)).run Try.prog w = .ok () (w.setRow g (ps (putp C o E)).toArray) := by
  have hs := run_storeCells_at Try.prog g (o * 2) 28 (ps E) 0 (ps C).toArray w h (by simp [ps_length]; omega) (ps_one E)
  simp only [Nat.add_zero] at hs
  rw [ps_putp]
  exact hs

/-- WHAT A SLICE READS AS: E, element by element -/
def RdP (w : World) (a : Addr) (E : List (Int × Int)) : Prop := ∀ j v, (ps E)[j]? = some v → w.cell? (a.add j) = some v
theorem Row.rd {w : World} {g : Nat} {C : List (Int × Int)} (h : Row w g C) (o n : Nat) : RdP w ⟨g, o * 2, none⟩ ((C.drop o).take n) := by
  intro j v hv
  have e : (⟨g, o * 2, none⟩ : Addr).add j = ⟨g, o * 2 + j, none⟩ := by unfold Addr.add; split <;> simp_all
  rw [e, h.at]
  rw [← ps_take, ← ps_drop, List.getElem?_take] at hv
  split at hv
  · rw [List.getElem?_drop] at hv; exact hv
  · cases hv

theorem run_copy_pairs {w : World} {dT sT ty : TypeId} (hu : Try.prog.underlying dT = some (.slice 28)) {g o : Nat} {C E : List (Int × Int)} (h : Row w g C) (hfit : o + E.length ≤ C.length)
    (dLen dCap sLen sCap : Nat) (a : Addr) (hn : E.length = Nat.min sLen dLen) (hsrc : RdP w a E) :
    (Builtin.copy_ #[dT, sT] ty #[.slice (some ⟨g, o * 2, none⟩) dLen dCap, .slice (some a) sLen sCap]).run Try.prog w = .ok (goInt E.length) (w.setRow g (ps (putp C o E)).toArray) := by
  obtain ⟨i0, hi, hz0, hz1, hz2⟩ := info_parts info28
  have hf := run_firstCells_some (P := Try.prog) w 2 E.length a sLen sCap (ps E) (ps_length E) hsrc
  have hs := run_store_pairs h hfit
  rw [hn] at hf
  simp [Builtin.copy_, run_underlying hu, Builtin.lenOf, sizeOf, typeInfo, hi, hz1, hf, hs, hn]

theorem run_append_pairs {w : World} {t tx ty e' : TypeId} (hu : Try.prog.underlying t = some (.slice 28)) (hx : Try.prog.underlying tx = some (.slice e')) {g : Nat} {C E : List (Int × Int)} (h : Row w g C) (sLen sCap m c : Nat) (hfit : sLen + E.length ≤ C.length) (hroom : sLen + m ≤ sCap)
    (a : Addr) (hn : E.length = m) (hsrc : RdP w a E) :
    (Builtin.append_ #[t, tx] ty #[.slice (some ⟨g, 0, none⟩) sLen sCap, .slice (some a) m c]).run Try.prog w = .ok (.slice (some ⟨g, 0, none⟩) (sLen + m) sCap) (w.setRow g (ps (putp C sLen E)).toArray) := by
  obtain ⟨i0, hi, hz0, hz1, hz2⟩ := info_parts info28
  subst hn
  have hf := run_firstCells_some (P := Try.prog) w 2 E.length a E.length c (ps E) (ps_length E) hsrc
  have hs := run_store_pairs h hfit
  simp [Builtin.append_, run_underlying hu, run_underlying hx, sizeOf, typeInfo, hi, hz1, Builtin.lenOf, hroom, hf, Addr.add_lit, hs]

theorem zeros_get (n j : Nat) : (ps (List.replicate n (0, 0)))[j]? = if j < n * 2 then some (.int .i64 0) else none := by
  induction n generalizing j with
  | zero => simp [ps]
  | succ n ih =>
    rw [List.replicate_succ]
    simp only [ps]
    match j with
    | 0 => simp
    | 1 => rw [if_pos (by omega)]; rfl
    | j + 2 =>
      simp only [List.getElem?_cons_succ, ih]
      by_cases h : j < n * 2
      · rw [if_pos h, if_pos (by omega)]
      · rw [if_neg h, if_neg (by omega)]
theorem zeros_ps (n : Nat) : (Builtin.zeroCells (Value.agg #[.int .i64 0, .int .i64 0]).cells n).toList = ps (List.replicate n (0, 0)) := by
  apply List.ext_getElem?
  intro j
  rw [zeros_get]
  have hc : (Value.agg #[.int .i64 0, .int .i64 0]).cells = #[.int .i64 0, .int .i64 0] := rfl
  rw [hc]
  simp only [Builtin.zeroCells, Array.getElem?_toList, Array.getElem?_map, List.size_toArray, List.length_cons, List.length_nil]
  by_cases h : j < n * 2
  · rw [if_pos h, Array.getElem?_range, if_pos (by omega)]
    rcases Nat.mod_two_eq_zero_or_one j with e | e <;> simp [e]
  · rw [if_neg h, Array.getElem?_range, if_neg (by omega)]
    rfl
theorem run_clear_pairs {w : World} {t ty : TypeId} (hu : Try.prog.underlying t = some (.slice 28)) {g o : Nat} {C : List (Int × Int)} (h : Row w g C) (n c : Nat) (hn : 0 < n) (hfit : o + n ≤ C.length) :
    (Builtin.clear_ #[t] ty #[.slice (some ⟨g, o * 2, none⟩) n c]).run Try.prog w = .ok (.tuple #[]) (w.setRow g (ps (putp C o (List.replicate n (0, 0)))).toArray) := by
  obtain ⟨i0, hi, hz0, hz1, hz2⟩ := info_parts info28
  have hs := run_store_pairs (E := List.replicate n (0, 0)) h (by simpa using hfit)
  rw [← zeros_ps] at hs
  obtain ⟨m, rfl⟩ : ∃ m, n = m + 1 := ⟨n - 1, by omega⟩
  simp [Builtin.clear_, run_underlying hu, zeroValue, typeInfo, hi, hz0]
  rw [hs]
  rfl
end Go.Proofs.Qxb6603657a.sr

import Derived.Test.Qxb6602854aCommon
import Derived.Deep.RegionWith
namespace Go.Proofs.Qxb6602854a.bys
open Go.RowKit

/-- A slice that is read while v is appended to: it does not lie in v's own block. -/
def RdS (w : World) (a : Option Addr) (n : Nat) (ds : List Int) (v : Value) : Prop :=
  Rd w a n ds ∧ (0 < n → ∀ b off, a = some ⟨b, off, none⟩ → v.ownBlock ≠ some b)
theorem RdS.ap {w w' : World} {a : Option Addr} {n : Nat} {ds : List Int} {v v' : Value} (h : RdS w a n ds v) (ha : Ap w v w' v') : RdS w' a n ds v' := by
  refine ⟨⟨h.1.1, fun hn => ?_⟩, fun hn b off e => ?_⟩
  · obtain ⟨b, off, rfl, hc⟩ := h.1.2 hn
    refine ⟨b, off, rfl, fun j hj => ?_⟩
    exact ha.1.cell (hc j hj) (fun e => h.2 hn b off rfl e.symm)
  · obtain ⟨b', off', rfl, hc⟩ := h.1.2 hn
    have hlt : b' < w.heap.size := World.block_lt_of_cell? w ⟨b', off' + 0, none⟩ (hc 0 hn)
    simp at e
    obtain ⟨rfl, rfl⟩ := e
    intro e2
    rcases ha.2 with h2 | h2
    · exact h.2 hn b' off' rfl (by rw [← h2]; exact e2)
    · have := h2 b' e2; omega

/-- WHAT STANDS WHILE v0 IS APPENDED TO: xs has been appended; the slice (a, n) still reads as ds. -/
structure St (B : Nat) (w0 : World) (v0 : Value) (bs : List Int) (a : Option Addr) (n : Nat) (ds : List Int) (wc : World) (vc : Value) (xs : List Int) : Prop where
  own : Own wc B vc (bs ++ xs)
  ap : Ap w0 v0 wc vc
  rd : RdS wc a n ds vc
  hB : B ≤ wc.heap.size
section
variable {B : Nat} {w0 : World} {v0 : Value} {bs : List Int} {a : Option Addr} {n : Nat} {ds : List Int} {wc : World} {vc : Value} {xs : List Int}
theorem St.step {w' : World} {v' : Value} {ys : List Int} (h : St B w0 v0 bs a n ds wc vc xs) (ho : Own w' B v' ((bs ++ xs) ++ ys)) (ha : Ap wc vc w' v') : St B w0 v0 bs a n ds w' v' (xs ++ ys) :=
  ⟨by rw [← List.append_assoc]; exact ho, h.ap.trans ha, h.rd.ap ha, Nat.le_trans h.hB ha.1.size⟩
theorem St.alloc (h : St B w0 v0 bs a n ds wc vc xs) (o : Obj) : St B w0 v0 bs a n ds (wc.alloc o) vc xs :=
  ⟨h.own.alloc o, h.ap.trans (Ap.alloc _ _ _), h.rd.ap (Ap.alloc _ _ _), by have := h.hB; simp; omega⟩

theorem St.congr {ys : List Int} (h : St B w0 v0 bs a n ds wc vc xs) (e : ys = xs) : St B w0 v0 bs a n ds wc vc ys := e ▸ h

/-- append(dst, c) -/
theorem wp_lit {ops : Array Oper} {rest : List Oper} {o : Oper} {ac : Act} {Q : Exit → Act → World → Prop} (hgd : o.guard = none) (s x : Operand)
    (ho : o.op = .call { callee := .builtin .append, args := #[s, x], argTypes := #[26, 26] }) (c : Int) (hs : ac.eval s = vc) (hx : ac.eval x = .slice (some ⟨wc.heap.size, 0, none⟩) 1 1)
    (hSt : St B w0 v0 bs a n ds wc vc xs) (hl : (bs ++ xs).length ≤ 1099511627776)
    (h : ∀ v' w', St B w0 v0 bs a n ds w' v' (xs ++ [c]) → wpList Try.prog ops Q rest (ac.put o.dst v') w') :
    wpList Try.prog ops Q (o :: rest) ac (wc.alloc (.cells #[.int .u8 c] 5)) := by
  obtain ⟨i0, hi, hz0, hz1, hz2⟩ := info_parts info5
  have hS := hSt.alloc (.cells #[.int .u8 c] 5)
  refine wpList_append_src _ hgd s x 26 26 ho B 5 i0 (.int .u8 0) 1 1 Try.underlying26 hi hz0 hz1 hz2 rfl (by decide) vc _ _ hs hS.own _ 1 (cs [c]) hx ?_ (by unfold maxLen; omega) (by omega) hS.hB ?_
  · refine Src.ofSlice _ Try.underlying26 _ 1 1 _ rfl (fun j u hu => ?_) (cs_one _)
    match j, hu with
    | 0, hu => simp [cs] at hu; subst hu; simp [Addr.add]
  · intro v' w' ho' ha'
    refine h v' w' ?_
    have := hS.step (ys := [c]) (Own.append ho' rfl) ha'
    exact this

/-- append(dst, es...) -/
theorem wp_rd {ops : Array Oper} {rest : List Oper} {o : Oper} {ac : Act} {Q : Exit → Act → World → Prop} (hgd : o.guard = none) (s x : Operand)
    (ho : o.op = .call { callee := .builtin .append, args := #[s, x], argTypes := #[26, 26] }) (a' : Option Addr) (m c' : Nat) (es : List Int) (hs : ac.eval s = vc) (hx : ac.eval x = .slice a' m c')
    (hSt : St B w0 v0 bs a n ds wc vc xs) (hr : Rd wc a' m es) (hl : (bs ++ xs).length ≤ 1099511627776) (hm : m ≤ 1099511627776)
    (h : ∀ v' w', St B w0 v0 bs a n ds w' v' (xs ++ es) → wpList Try.prog ops Q rest (ac.put o.dst v') w') :
    wpList Try.prog ops Q (o :: rest) ac wc := by
  obtain ⟨i0, hi, hz0, hz1, hz2⟩ := info_parts info5
  refine wpList_append_src _ hgd s x 26 26 ho B 5 i0 (.int .u8 0) 1 1 Try.underlying26 hi hz0 hz1 hz2 rfl (by decide) vc _ _ hs hSt.own _ m (cs es) hx (hr.src Try.underlying26) (by unfold maxLen; omega) (by omega) hSt.hB ?_
  intro v' w' ho' ha'
  exact h v' w' (hSt.step (Own.append ho' hr.len) ha')

/-- appendZeros(dst, N) -/
theorem zeros_st (N : Int) (hSt : St B w0 v0 bs a n ds wc vc xs) (hl : (bs ++ xs).length ≤ 1073741824) (hN : N ≤ 1073741824) (hN0 : -1099511627776 ≤ N) :
    Calls Try.prog 25 #[vc, .int .i64 N] wc fun e w' => ∃ v', e = .returned v' ∧ St B w0 v0 bs a n ds w' v' (xs ++ zz N) := by
  refine (zeros_any vc B (bs ++ xs) N wc hSt.own hSt.hB hl hN hN0).mono ?_
  rintro e w' ⟨v', rfl, ho, ha⟩
  exact ⟨v', rfl, hSt.step ho ha⟩
end
theorem Rd.take {w : World} {a : Option Addr} {n m : Nat} {ds : List Int} (h : Rd w a n ds) (hm : m ≤ n) : Rd w a m (ds.take m) := by
  refine ⟨by rw [List.length_take, h.len]; omega, fun hp => ?_⟩
  obtain ⟨b, off, rfl, hc⟩ := h.2 (by omega)
  refine ⟨b, off, rfl, fun j hj => ?_⟩
  rw [hc j (by omega)]
  simp [List.getD, hj]
theorem Rd.drop {w : World} {b off n m : Nat} {ds : List Int} (h : Rd w (some ⟨b, off, none⟩) n ds) (hm : m ≤ n) : Rd w (some ⟨b, off + m, none⟩) (n - m) (ds.drop m) := by
  refine ⟨by rw [List.length_drop, h.len], fun hp => ?_⟩
  obtain ⟨b', off', e, hc⟩ := h.2 (by omega)
  simp at e
  obtain ⟨rfl, rfl⟩ := e
  refine ⟨b, off + m, rfl, fun j hj => ?_⟩
  rw [Nat.add_assoc, hc (m + j) (by omega)]
  simp [List.getD, List.getElem?_drop]
theorem Rd.nothing (w : World) (a : Option Addr) : Rd w a 0 [] := ⟨rfl, fun h => absurd h (by omega)⟩
theorem Rd.none_of (w : World) (a : Option Addr) {m : Nat} (h : m = 0) : Rd w a m [] := h ▸ Rd.nothing w a
theorem zz_0 : zz 0 = [] := rfl
theorem Rd.at {w : World} {b off n : Nat} {ds : List Int} (h : Rd w (some ⟨b, off, none⟩) n ds) {j : Nat} (hj : j < n) : w.cell? ⟨b, off + j, none⟩ = some (.int .u8 (ds.getD j 0)) := by
  obtain ⟨b', off', e, hc⟩ := h.2 (by omega)
  simp at e
  obtain ⟨rfl, rfl⟩ := e
  exact hc j hj
theorem own_congr {w : World} {B : Nat} {v : Value} {bs xs ys : List Int} (h : Own w B v (bs ++ xs)) (e : ys = xs) : Own w B v (bs ++ ys) := e ▸ h
end Go.Proofs.Qxb6602854a.bys

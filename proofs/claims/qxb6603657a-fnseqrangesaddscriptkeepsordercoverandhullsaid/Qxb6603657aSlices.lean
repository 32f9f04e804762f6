import Derived.Test.Qxb6603657aPairs
import Derived.Deep.RegionLaw
import Derived.Deep.QuietTactic
import Derived.BigQuiet
import Derived.Deep.DeepMust
import Derived.Lib.Overlaps
namespace Go.Proofs.Qxb6603657a.sr
open Go.RowKit

/-! ### guards ('with_reducible': they look at the goal's text alone) -/
section
variable {P : Program} {ops : Array Oper} {Q : Exit → Act → World → Prop} {rest : List Oper} {a : Act} {w : World} {dst : Option Tmp} {ty : TypeId} {pos : String} {after : Array Edge} {gd : Option (Nat × Bool)}
theorem at_copy {d s : Operand} {dT sT : TypeId}
    (h : wpList P ops Q ({ dst := dst, op := .call { callee := .builtin .copy, args := #[d, s], argTypes := #[dT, sT] }, type := ty, pos := pos, after := after, guard := gd } :: rest) a w) :
    wpList P ops Q ({ dst := dst, op := .call { callee := .builtin .copy, args := #[d, s], argTypes := #[dT, sT] }, type := ty, pos := pos, after := after, guard := gd } :: rest) a w := h
theorem at_clear {d : Operand} {dT : TypeId}
    (h : wpList P ops Q ({ dst := dst, op := .call { callee := .builtin .clear, args := #[d], argTypes := #[dT] }, type := ty, pos := pos, after := after, guard := gd } :: rest) a w) :
    wpList P ops Q ({ dst := dst, op := .call { callee := .builtin .clear, args := #[d], argTypes := #[dT] }, type := ty, pos := pos, after := after, guard := gd } :: rest) a w := h
end

section
variable {ops : Array Oper} {rest : List Oper} {o : Oper} {a : Act} {w : World} {Q : Exit → Act → World → Prop} {K : Act → World → Prop} {E' : Prop}
theorem wpList_copy_pairs (hgd : o.guard = none) (d s : Operand) (dT sT : TypeId) (ho : o.op = .call { callee := .builtin .copy, args := #[d, s], argTypes := #[dT, sT] }) (hu : Try.prog.underlying dT = some (.slice 28))
    (g k : Nat) (C E : List (Int × Int)) (h : Row w g C) (hfit : k + E.length ≤ C.length) (dLen dCap sLen sCap : Nat) (ad : Addr) (hd : a.eval d = .slice (some ⟨g, k * 2, none⟩) dLen dCap) (hs : a.eval s = .slice (some ad) sLen sCap)
    (hn : E.length = Nat.min sLen dLen) (hsrc : RdP w ad E)
    (hk : ∀ w', Row w' g (putp C k E) → w.grownBy w' (some g) → wpList Try.prog ops Q rest (a.put o.dst (goInt E.length)) w') : wpList Try.prog ops Q (o :: rest) a w := by
  refine wpList_plain hgd fun K hK => ?_
  have hrun := run_copy_pairs (ty := o.type) (sT := sT) hu h hfit dLen dCap sLen sCap ad hn hsrc
  unfold Oper.wp
  simp [execOp, ho, resolve, invoke, builtin, hd, hs, hrun, Result.andThen]
  exact hK _ _ (hk _ (h.set _).1 (h.set _).2)
theorem step_copy_pairs (hgd : o.guard = none) (d s : Operand) (dT sT : TypeId) (ho : o.op = .call { callee := .builtin .copy, args := #[d, s], argTypes := #[dT, sT] }) (hu : Try.prog.underlying dT = some (.slice 28))
    (g k : Nat) (C E : List (Int × Int)) (h : Row w g C) (hfit : k + E.length ≤ C.length) (dLen dCap sLen sCap : Nat) (ad : Addr) (hd : a.eval d = .slice (some ⟨g, k * 2, none⟩) dLen dCap) (hs : a.eval s = .slice (some ad) sLen sCap)
    (hn : E.length = Nat.min sLen dLen) (hsrc : RdP w ad E)
    (hk : ∀ w', Row w' g (putp C k E) → w.grownBy w' (some g) → K (a.put o.dst (goInt E.length)) w') : if Region.wanted o (yielded ops a.tmps) = true then Oper.wp Try.prog o a w K Q else E' := by
  have hw : Region.wanted o (yielded ops a.tmps) = true := by simp [Region.wanted, hgd]
  rw [if_pos hw]
  have hrun := run_copy_pairs (ty := o.type) (sT := sT) hu h hfit dLen dCap sLen sCap ad hn hsrc
  unfold Oper.wp
  simp [execOp, ho, resolve, invoke, builtin, hd, hs, hrun, Result.andThen]
  exact hk _ (h.set _).1 (h.set _).2
theorem wpList_append_pairs (hgd : o.guard = none) (s x : Operand) (t tx e' : TypeId) (ho : o.op = .call { callee := .builtin .append, args := #[s, x], argTypes := #[t, tx] }) (hu : Try.prog.underlying t = some (.slice 28)) (hux : Try.prog.underlying tx = some (.slice e'))
    (g : Nat) (C E : List (Int × Int)) (h : Row w g C) (n cap m c : Nat) (ad : Addr) (hs : a.eval s = .slice (some ⟨g, 0, none⟩) n cap) (hx : a.eval x = .slice (some ad) m c) (hfit : n + E.length ≤ C.length) (hroom : n + m ≤ cap)
    (hn : E.length = m) (hsrc : RdP w ad E)
    (hk : ∀ w', Row w' g (putp C n E) → w.grownBy w' (some g) → wpList Try.prog ops Q rest (a.put o.dst (.slice (some ⟨g, 0, none⟩) (n + m) cap)) w') : wpList Try.prog ops Q (o :: rest) a w := by
  refine wpList_plain hgd fun K hK => ?_
  have hrun := run_append_pairs (ty := o.type) hu hux h n cap m c hfit hroom ad hn hsrc
  unfold Oper.wp execOp
  simp only [ho, resolve, invoke, builtin, Sem.run_bind, Sem.run_pure, Result.andThen_ok, List.map_toArray, List.map_cons, List.map_nil, hs, hx, hrun]
  exact hK _ _ (hk _ (h.set _).1 (h.set _).2)
theorem step_append_pairs (hgd : o.guard = none) (s x : Operand) (t tx e' : TypeId) (ho : o.op = .call { callee := .builtin .append, args := #[s, x], argTypes := #[t, tx] }) (hu : Try.prog.underlying t = some (.slice 28)) (hux : Try.prog.underlying tx = some (.slice e'))
    (g : Nat) (C E : List (Int × Int)) (h : Row w g C) (n cap m c : Nat) (ad : Addr) (hs : a.eval s = .slice (some ⟨g, 0, none⟩) n cap) (hx : a.eval x = .slice (some ad) m c) (hfit : n + E.length ≤ C.length) (hroom : n + m ≤ cap)
    (hn : E.length = m) (hsrc : RdP w ad E)
    (hk : ∀ w', Row w' g (putp C n E) → w.grownBy w' (some g) → K (a.put o.dst (.slice (some ⟨g, 0, none⟩) (n + m) cap)) w') : if Region.wanted o (yielded ops a.tmps) = true then Oper.wp Try.prog o a w K Q else E' := by
  have hw : Region.wanted o (yielded ops a.tmps) = true := by simp [Region.wanted, hgd]
  rw [if_pos hw]
  have hrun := run_append_pairs (ty := o.type) hu hux h n cap m c hfit hroom ad hn hsrc
  unfold Oper.wp execOp
  simp only [ho, resolve, invoke, builtin, Sem.run_bind, Sem.run_pure, Result.andThen_ok, List.map_toArray, List.map_cons, List.map_nil, hs, hx, hrun]
  exact hk _ (h.set _).1 (h.set _).2
theorem wpList_clear_pairs (hgd : o.guard = none) (x : Operand) (t : TypeId) (ho : o.op = .call { callee := .builtin .clear, args := #[x], argTypes := #[t] }) (hu : Try.prog.underlying t = some (.slice 28))
    (g k : Nat) (C : List (Int × Int)) (h : Row w g C) (n c : Nat) (hx : a.eval x = .slice (some ⟨g, k * 2, none⟩) n c) (hn : 0 < n) (hfit : k + n ≤ C.length)
    (hk : ∀ w', Row w' g (putp C k (List.replicate n (0, 0))) → w.grownBy w' (some g) → wpList Try.prog ops Q rest (a.put o.dst (.tuple #[])) w') : wpList Try.prog ops Q (o :: rest) a w := by
  refine wpList_plain hgd fun K hK => ?_
  have hrun := run_clear_pairs (ty := o.type) hu h n c hn hfit
  unfold Oper.wp execOp
  simp only [ho, resolve, invoke, builtin, Sem.run_bind, Sem.run_pure, Result.andThen_ok, List.map_toArray, List.map_cons, List.map_nil, hx, hrun]
  exact hK _ _ (hk _ (h.set _).1 (h.set _).2)
theorem wpList_clear_none (hgd : o.guard = none) (x : Operand) (t : TypeId) (ho : o.op = .call { callee := .builtin .clear, args := #[x], argTypes := #[t] }) (hu : Try.prog.underlying t = some (.slice 28))
    (ao : Option Addr) (c : Nat) (hx : a.eval x = .slice ao 0 c)
    (hk : wpList Try.prog ops Q rest (a.put o.dst (.tuple #[])) w) : wpList Try.prog ops Q (o :: rest) a w := by
  refine wpList_plain hgd fun K hK => ?_
  have hrun : (Builtin.clear_ #[t] o.type #[.slice ao 0 c]).run Try.prog w = .ok (.tuple #[]) w := by
    cases ao <;> simp [Builtin.clear_, run_underlying hu]
  unfold Oper.wp execOp
  simp only [ho, resolve, invoke, builtin, Sem.run_bind, Sem.run_pure, Result.andThen_ok, List.map_toArray, List.map_cons, List.map_nil, hx, hrun]
  exact hK _ _ hk
end
end Go.Proofs.Qxb6603657a.sr

import Derived.Test.Qxb6602854aFixedAll
import Derived.Test.Qxb6602854aModel
import Derived.OpenShut
namespace Go.Proofs.Qxb6602854a.bys
open Go.RowKit

theorem model_st (neg : Bool) (a : Option Addr) (n : Nat) (ds : List Int) (k prec : Int) (w : World) (hS : St w.heap.size w (.slice none 0 0) [] a n ds w (.slice none 0 0) [])
    (ha : (a = none ∧ n = 0) ∨ ∃ g, a = some ⟨g, 0, none⟩) (hn : n ≤ 1048576) (hk : -1048576 ≤ k) (hk2 : k ≤ 1048576) (hp1 : -1048576 ≤ prec) (hp2 : prec ≤ 1048576) :
    Calls Try.prog 13 #[.bool neg, .slice a n n, .int .i64 k, .int .i64 prec] w fun e w' => ∃ v', e = .returned v' ∧ Own w' w.heap.size v' (fm neg ds k prec) ∧ Below w.heap.size w w' := by
  have hl2 : ds.length = n := hS.rd.1.len
  by_cases hn0 : 0 < n
  · obtain ⟨b, rfl⟩ : ∃ b, a = some ⟨b, 0, none⟩ := by
      rcases ha with ⟨_, h⟩ | h
      · omega
      · exact h
    cases neg with
    | false =>
      by_cases hkn : k < 0
      · by_cases hp : 0 < prec
        · exact mod_slpd b n ds k prec w hS hl2 hn hn0 hkn hk hp hp2
        · exact mod_slid b n ds k prec w hS hl2 hn hn0 hkn hk (by omega) hp1
      · by_cases hp : 0 < prec
        · exact mod_shpd b n ds k prec w hS hl2 hn hn0 (by omega) hk2 hp hp2
        · exact mod_shid b n ds k prec w hS hl2 hn hn0 (by omega) hk2 (by omega) hp1
    | true =>
      by_cases hkn : k < 0
      · by_cases hp : 0 < prec
        · exact mod_nlpd b n ds k prec w hS hl2 hn hn0 hkn hk hp hp2
        · exact mod_nlid b n ds k prec w hS hl2 hn hn0 hkn hk (by omega) hp1
      · by_cases hp : 0 < prec
        · exact mod_nhpd b n ds k prec w hS hl2 hn hn0 (by omega) hk2 hp hp2
        · exact mod_nhid b n ds k prec w hS hl2 hn hn0 (by omega) hk2 (by omega) hp1
  · obtain rfl : n = 0 := by omega
    obtain rfl : ds = [] := List.eq_nil_of_length_eq_zero hl2
    cases neg with
    | false =>
      by_cases hkn : k < 0
      · by_cases hp : 0 < prec
        · exact mod_slpz a k prec w hS hkn hk hp hp2
        · exact mod_sliz a k prec w hS hkn hk (by omega) hp1
      · by_cases hp : 0 < prec
        · exact mod_shpz a k prec w hS (by omega) hk2 hp hp2
        · exact mod_shiz a k prec w hS (by omega) hk2 (by omega) hp1
    | true =>
      by_cases hkn : k < 0
      · by_cases hp : 0 < prec
        · exact mod_nlpz a k prec w hS hkn hk hp hp2
        · exact mod_nliz a k prec w hS hkn hk (by omega) hp1
      · by_cases hp : 0 < prec
        · exact mod_nhpz a k prec w hS (by omega) hk2 hp hp2
        · exact mod_nhiz a k prec w hS (by omega) hk2 (by omega) hp1

/-- fixedModel, WHATEVER THE CASE -/
theorem model_any (neg : Bool) (a : Option Addr) (n : Nat) (ds : List Int) (k prec : Int) (w : World) (hR : Rd w a n ds)
    (ha : (a = none ∧ n = 0) ∨ ∃ g, a = some ⟨g, 0, none⟩) (hn : n ≤ 1048576) (hk : -1048576 ≤ k) (hk2 : k ≤ 1048576) (hp1 : -1048576 ≤ prec) (hp2 : prec ≤ 1048576) :
    Calls Try.prog 13 #[.bool neg, .slice a n n, .int .i64 k, .int .i64 prec] w fun e w' => ∃ v', e = .returned v' ∧ Own w' w.heap.size v' (fm neg ds k prec) ∧ Below w.heap.size w w' :=
  model_st neg a n ds k prec w ⟨Own.nil _ _, Ap.refl _ _, ⟨hR, fun _ b off _ h => by simp [Value.ownBlock] at h⟩, Nat.le_refl _⟩ ha hn hk hk2 hp1 hp2

/-- WHAT A SLICE THAT CAME IN READS AS -/
theorem rd_of_row {w : World} {a : Option Addr} {len cap : Nat} {zs : List Int}
    (h : (a = none ∧ len = 0 ∧ cap = 0 ∧ zs = []) ∨ ∃ x, a = some x ∧ len ≤ cap ∧ cap ≤ maxLen ∧ zs.length = cap ∧ (∀ i, i < zs.length → w.cell? (x.add i) = some (.int .u8 (zs.getD i 0))) ∧ ∀ n ∈ zs, (Lit.int .u8 n).wf = true) :
    Rd w a len (zs.take len) ∧ (a = none → len = 0 ∧ cap = 0) ∧ len ≤ maxLen := by
  rcases h with ⟨rfl, rfl, rfl, rfl⟩ | ⟨x, rfl, h1, h2, h3, h4, h5⟩
  · exact ⟨⟨rfl, fun h => absurd h (by omega)⟩, fun _ => ⟨rfl, rfl⟩, by unfold maxLen; omega⟩
  · refine ⟨⟨by rw [List.length_take]; omega, fun hp => ?_⟩, (fun h => by cases h), by omega⟩
    obtain ⟨b, off, rfl, hc⟩ := ints_at h4 (by omega)
    refine ⟨b, off, rfl, fun j hj => ?_⟩
    rw [hc j (by omega)]
    simp [List.getD, hj]

theorem Own.rd' {w : World} {B : Nat} {a : Option Addr} {n c : Nat} {bs : List Int} (h : Own w B (.slice a n c) bs) : Rd w a n bs ∧ (a = none → n = 0 ∧ c = 0) := by
  obtain ⟨a', cap, e, hr, _, hn⟩ := h.rd
  simp at e
  obtain ⟨rfl, rfl, rfl⟩ := e
  exact ⟨hr, hn⟩

section
variable {B : Nat} {w0 : World} {v0 : Value} {bs : List Int} {a : Option Addr} {n : Nat} {ds : List Int} {wc : World} {vc : Value} {xs : List Int}
/-- append(dst, es...), es a row of the call's own -/
theorem wp_own {ops : Array Oper} {rest : List Oper} {o : Oper} {ac : Act} {Q : Exit → Act → World → Prop} (hgd : o.guard = none) (s x : Operand)
    (ho : o.op = .call { callee := .builtin .append, args := #[s, x], argTypes := #[26, 26] }) (vx : Value) (es : List Int) (hs : ac.eval s = vc) (hx : ac.eval x = vx)
    (hSt : St B w0 v0 bs a n ds wc vc xs) {B' : Nat} (hr : Own wc B' vx es) (hl : (bs ++ xs).length ≤ 1099511627776) (hm : es.length ≤ 1099511627776)
    (h : ∀ v' w', St B w0 v0 bs a n ds w' v' (xs ++ es) → wpList Try.prog ops Q rest (ac.put o.dst v') w') :
    wpList Try.prog ops Q (o :: rest) ac wc := by
  obtain ⟨a', cap, rfl, hrd, _, _⟩ := hr.rd
  exact wp_rd hgd s x ho a' es.length cap es hs hx hSt hrd hl hm h
end

/-- equalBytes of two rows of the call's own -/
theorem equal_own {w : World} {B1 B2 : Nat} {v1 v2 : Value} {zs : List Int} (h1 : Own w B1 v1 zs) (h2 : Own w B2 v2 zs) (hn : zs.length ≤ 1099511627776) :
    Calls Try.prog 15 #[v1, v2] w fun e w' => e = .returned (.bool true) ∧ ∃ q, w' = w.drewN q := by
  obtain ⟨a1, c1, rfl, hr1, _, _⟩ := h1.rd
  obtain ⟨a2, c2, rfl, hr2, _, _⟩ := h2.rd
  exact equal_any a1 a2 _ c1 c2 zs w hr1 hr2 hn

theorem below_drewN {B : Nat} {w0 w : World} (h : Below B w0 w) (q : Nat) : Below B w0 (w.drewN q) := ⟨h.os, h.tape, h.output, h.size, h.block⟩

/-- a row that lies below, one that lies above: they are apart -/
theorem apart_of {w1 w2 : World} {B1 B2 : Nat} {v1 v2 : Value} {xs ys : List Int} (h1 : Own w1 B1 v1 xs) (h2 : Own w2 B2 v2 ys) (h : w1.heap.size ≤ B2) : v1.ownBlock = none ∨ v1.ownBlock ≠ v2.ownBlock := by
  cases e1 : v1.ownBlock with
  | none => exact .inl rfl
  | some k =>
    refine .inr fun e => ?_
    have := (h1.lt k e1).2
    have := (h2.lt k e.symm).1
    omega
theorem apart_of' {w1 w2 : World} {B1 B2 : Nat} {v1 v2 : Value} {xs ys : List Int} (h1 : Own w1 B1 v1 xs) (h2 : Own w2 B2 v2 ys) (h : w1.heap.size ≤ B2) : v2.ownBlock = none ∨ v2.ownBlock ≠ v1.ownBlock := by
  rcases apart_of h1 h2 h with e | e
  · cases e2 : v2.ownBlock with
    | none => exact .inl rfl
    | some k => exact .inr (by rw [e]; simp)
  · exact .inr (Ne.symm e)
/-- a slice that is read, against a row that is appended to -/
theorem sep_of {w1 w2 : World} {B1 B2 : Nat} {v1 : Value} {a : Option Addr} {n c : Nat} {xs ys : List Int} (h1 : Own w1 B1 v1 xs) (h2 : Own w2 B2 (.slice a n c) ys) (h : w1.heap.size ≤ B2 ∨ w2.heap.size ≤ B1) :
    ∀ b off, a = some ⟨b, off, none⟩ → v1.ownBlock ≠ some b := by
  intro b off e e1
  subst e
  have l1 := h1.lt b e1
  have l2 := h2.lt b rfl
  omega
end Go.Proofs.Qxb6602854a.bys

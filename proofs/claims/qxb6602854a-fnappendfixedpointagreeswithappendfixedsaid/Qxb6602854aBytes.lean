import Derived.WalkKit
import Derived.Deep.AppendSrc
import Derived.Laws.CopyOwn
/- Laws on rows of the call's own that are appended to: which block the new slice lies in; slices of bytes that are only read. No program. -/
namespace Go.Proofs.Qxb6602854a.bys
open Go.RowKit

/-- What appends onto v have done: w' is w but for new blocks and writes into v's own block; the new slice v' lies in v's block or in a new one. -/
def Ap (w : World) (v : Value) (w' : World) (v' : Value) : Prop :=
  w.grownBy w' v.ownBlock ∧ (v'.ownBlock = v.ownBlock ∨ ∀ k, v'.ownBlock = some k → w.heap.size ≤ k)

theorem grownBy_refl (w : World) (r : Option Nat) : w.grownBy w r := ⟨rfl, rfl, rfl, Nat.le_refl _, fun _ _ _ => rfl⟩
theorem Ap.refl (w : World) (v : Value) : Ap w v w v := ⟨grownBy_refl w _, .inl rfl⟩
theorem Ap.trans {w w1 w2 : World} {v v1 v2 : Value} (h : Ap w v w1 v1) (k : Ap w1 v1 w2 v2) : Ap w v w2 v2 := by
  obtain ⟨h1, h2⟩ := h
  obtain ⟨k1, k2⟩ := k
  refine ⟨⟨k1.os.trans h1.os, k1.tape.trans h1.tape, k1.output.trans h1.output, Nat.le_trans h1.size k1.size, fun j hj hne => ?_⟩, ?_⟩
  · refine (k1.block j (Nat.lt_of_lt_of_le hj h1.size) ?_).trans (h1.block j hj hne)
    intro e
    rcases h2 with h2 | h2
    · exact hne (by rw [e, h2])
    · have := h2 j e.symm; omega
  · rcases k2 with k2 | k2
    · rcases h2 with h2 | h2
      · exact .inl (k2.trans h2)
      · exact .inr fun j hj => h2 j (by rw [← k2]; exact hj)
    · exact .inr fun j hj => Nat.le_trans h1.size (k2 j hj)
theorem Ap.alloc (w : World) (v : Value) (o : Obj) : Ap w v (w.alloc o) v := ⟨World.grownBy_alloc w o _, .inl rfl⟩
theorem Ap.drew (w : World) (v : Value) : Ap w v w.drew v := ⟨⟨rfl, rfl, rfl, Nat.le_refl _, fun _ _ _ => rfl⟩, .inl rfl⟩

/-- old memory -/
theorem Ap.below {w w' : World} {v v' : Value} {B : Nat} {w0 : World} (h : Ap w v w' v') (hb : Below B w0 w) (hB : B ≤ w.heap.size) (hv : ∀ k, v.ownBlock = some k → B ≤ k) : Below B w0 w' :=
  hb.grown h.1 hB hv
/-- another row of the call's own -/
theorem Ap.keeps {w w' : World} {v v' u : Value} {B : Nat} {e : TypeId} {size n : Nat} {xs : List Value} (h : Ap w v w' v') (hu : w.ownsRow B e size u n xs) (hne : u.ownBlock = none ∨ u.ownBlock ≠ v.ownBlock) : w'.ownsRow B e size u n xs :=
  hu.kept h.1 hne

theorem ownsRow_mono {w : World} {B B' : Nat} {e : TypeId} {size : Nat} {v : Value} {n : Nat} {xs : List Value} (h : w.ownsRow B e size v n xs) (hB : B' ≤ B) : w.ownsRow B' e size v n xs := by
  refine ⟨h.1, ?_⟩
  rcases h.2 with h2 | ⟨g, cap, cur, r0, r1, r2⟩
  · exact .inl h2
  · exact .inr ⟨g, cap, cur, r0, Nat.le_trans hB r1, r2⟩

section
variable {P : Program} (w : World)

/-- append onto a row of the call's own, whatever the source: the new slice's block besides. -/
theorem run_append_own_src (base : Nat) (t tx ty e : TypeId) (i : TypeInfo) (z : Value) (size bytes : Nat) (ht : P.underlying t = some (.slice e)) (hi : P.info? e = some i) (hz : i.zero = some z)
    (hsize : i.size = size) (hby : i.bytes = bytes) (hzs : z.cells.size = size) (_hsz : 0 < size)
    (v : Value) (n : Nat) (xs : List Value) (hown : w.ownsRow base e size v n xs)
    (x : Value) (m : Nat) (news : List Value) (hsrc : Src P size tx x m news w)
    (h63 : n + m ≤ maxLen) (hbytes : (n + m) * bytes ≤ 140737488355328) (hbase : base ≤ w.heap.size) :
    ∃ v' w', (Builtin.append_ #[t, tx] ty #[v, x]).run P w = .ok v' w' ∧ w'.ownsRow base e size v' (n + m) (xs ++ news) ∧ Ap w v w' v' := by
  subst hsize
  subst hby
  have hsmall : n + m ≤ 9223372036854775807 := by simp only [maxLen] at h63; omega
  have hl := hsrc.newsLen
  have hlen : (xs ++ news).length = (n + m) * i.size := by rw [List.length_append, hown.1, hl, Nat.add_mul]
  have grown : ∀ (old : Nat), old < n + m → ∀ (row : Option Nat),
      (w.drew.alloc (.cells ((xs ++ news).toArray ++ Builtin.zeroCells z.cells (grownCap w (n + m) old e - (n + m))) e)).ownsRow base e i.size
        (.slice (some ⟨w.heap.size, 0, none⟩) (n + m) (grownCap w (n + m) old e)) (n + m) (xs ++ news) ∧
      w.grownBy (w.drew.alloc (.cells ((xs ++ news).toArray ++ Builtin.zeroCells z.cells (grownCap w (n + m) old e - (n + m))) e)) row := by
    intro old ho row
    have hge := grownCap_ge w (n + m) old e
    have hcm : grownCap w (n + m) old e ≤ maxLen := grownCap_le_maxLen w (n + m) old e h63
    refine ⟨⟨hlen, .inr ⟨w.heap.size, _, _, rfl, hbase, heap_alloc_new w.drew _, hge, hcm, ?_, ?_⟩⟩, ⟨rfl, rfl, rfl, by simp, fun k hk _ => Below.heap_alloc w.drew _ k hk⟩⟩
    · simp only [Array.size_append, List.size_toArray, size_zeroCells, hzs, hlen, ← Nat.add_mul]
      congr 1
      omega
    · simp only [Array.toList_append]
      rw [← hlen]
      exact List.take_left
  rcases hown.2 with ⟨rfl, rfl⟩ | ⟨g, cap, cur, rfl, hbg, hg, hnc, hcm, hcs, htake⟩
  · have hx : xs = [] := List.eq_nil_of_length_eq_zero (by simpa using hown.1)
    subst hx
    by_cases hm : m = 0
    · subst hm
      have hn : news = [] := List.eq_nil_of_length_eq_zero (by simpa using hl)
      subst hn
      refine ⟨.slice none 0 0, w, ?_, World.ownsRow_nil w base e i.size, Ap.refl w _⟩
      rcases hsrc.kind with ⟨e', hk⟩ | hk <;> simp [Builtin.append_, run_underlying ht, run_underlying hk, sizeOf, typeInfo, hi, hsrc.len, hsrc.cells]
    · have hr := run_append_grow_src (P := P) w t tx ty e i z ht hi hz none 0 0 [] (run_firstCells_none w.drew i.size 0 0 0) x m news hsrc (by omega) (by omega) (growslice_fits (by omega) hbytes)
      have hgr := grown 0 (by omega) (Value.ownBlock (.slice none 0 0))
      exact ⟨_, _, hr, hgr.1, hgr.2, .inr fun k hk => by simp [Value.ownBlock] at hk; omega⟩
  · by_cases hroom : n + m ≤ cap
    · have hfit : n * i.size + news.length ≤ cur.size := by rw [hl, hcs, ← Nat.add_mul]; exact Nat.mul_le_mul_right _ hroom
      have hst := run_storeCells_at P g (n * i.size) e news 0 cur w hg (by simpa using hfit) hsrc.one
      simp only [Nat.add_zero] at hst
      have hr : (Builtin.append_ #[t, tx] ty #[.slice (some ⟨g, 0, none⟩) n cap, x]).run P w =
          .ok (.slice (some ⟨g, 0, none⟩) (n + m) cap) (w.setRow g (cur.toList.take (n * i.size) ++ news ++ cur.toList.drop (n * i.size + news.length)).toArray) := by
        rcases hsrc.kind with ⟨e', hk⟩ | hk <;> simp [Builtin.append_, run_underlying ht, run_underlying hk, sizeOf, typeInfo, hi, hsrc.len, hroom, hsrc.cells, Addr.add_lit, hst]
      refine ⟨_, _, hr, ⟨hlen, .inr ⟨g, cap, _, rfl, hbg, setRow_heap w g cur _ e _ hg, hroom, hcm, ?_, ?_⟩⟩, ⟨rfl, rfl, rfl, by simp, fun k _ hk => setRow_other w g k _ (fun e => hk (by simp [Value.ownBlock, e]))⟩, .inl (by simp [Value.ownBlock])⟩
      · simp only [List.size_toArray, List.length_append, List.length_take, List.length_drop, Array.length_toList]
        omega
      · rw [htake, ← hlen]
        exact List.take_left
    · have holds : ∀ j u, xs[j]? = some u → w.cell? ((⟨g, 0, none⟩ : Addr).add j) = some u := hown.cells (g := g) rfl
      have hr := run_append_grow_src (P := P) w t tx ty e i z ht hi hz (some ⟨g, 0, none⟩) n cap xs (run_firstCells_some w.drew i.size n ⟨g, 0, none⟩ n cap xs hown.1 (by simpa using holds)) x m news hsrc (by omega) (by omega) (growslice_fits (by omega) hbytes)
      have hgr := grown cap (by omega) (Value.ownBlock (.slice (some ⟨g, 0, none⟩) n cap))
      exact ⟨_, _, hr, hgr.1, hgr.2, .inr fun k hk => by simp [Value.ownBlock] at hk; omega⟩

/-- the same, for the walk -/
theorem wpList_append_src {ops : Array Oper} {rest : List Oper} {o : Oper} {a : Act} {Q : Exit → Act → World → Prop} (hgd : o.guard = none) (s x : Operand) (t tx : TypeId)
    (ho : o.op = .call { callee := .builtin .append, args := #[s, x], argTypes := #[t, tx] })
    (base : Nat) (e : TypeId) (i : TypeInfo) (z : Value) (size bytes : Nat) (ht : P.underlying t = some (.slice e)) (hi : P.info? e = some i) (hz : i.zero = some z)
    (hsize : i.size = size) (hby : i.bytes = bytes) (hzs : z.cells.size = size) (hsz : 0 < size)
    (v : Value) (n : Nat) (xs : List Value) (hs : a.eval s = v) (hown : w.ownsRow base e size v n xs)
    (vx : Value) (m : Nat) (news : List Value) (hx : a.eval x = vx) (hsrc : Src P size tx vx m news w)
    (h63 : n + m ≤ maxLen) (hbytes : (n + m) * bytes ≤ 140737488355328) (hbase : base ≤ w.heap.size)
    (h : ∀ v' w', w'.ownsRow base e size v' (n + m) (xs ++ news) → Ap w v w' v' → wpList P ops Q rest (a.put o.dst v') w') : wpList P ops Q (o :: rest) a w := by
  obtain ⟨v', w', hr, h2, h3⟩ := run_append_own_src (P := P) w base t tx o.type e i z size bytes ht hi hz hsize hby hzs hsz v n xs hown vx m news hsrc h63 hbytes hbase
  refine wpList_plain hgd fun K hK => ?_
  unfold Oper.wp execOp
  simp only [ho, resolve, invoke, builtin, Sem.run_bind, Sem.run_pure, Result.andThen_ok, List.map_toArray, List.map_cons, List.map_nil, hs, hx, hr]
  exact hK _ _ (h v' w' h2 h3)
end
end Go.Proofs.Qxb6602854a.bys
namespace Go.Proofs.Qxb6602854a.bys
open Go.RowKit

/-- bytes, as cells -/
def cs (zs : List Int) : List Value := zs.map (Value.int .u8)
theorem cs_length (zs : List Int) : (cs zs).length = zs.length := by simp [cs]
theorem cs_append (xs ys : List Int) : cs (xs ++ ys) = cs xs ++ cs ys := by simp [cs]
theorem cs_get {zs : List Int} {j : Nat} {u : Value} (h : (cs zs)[j]? = some u) : j < zs.length ∧ u = .int .u8 (zs.getD j 0) := by
  simp only [cs, List.getElem?_map, Option.map_eq_some_iff] at h
  obtain ⟨z, hz, rfl⟩ := h
  obtain ⟨hj, _⟩ := List.getElem?_eq_some_iff.1 hz
  exact ⟨hj, by simp [List.getD, hz]⟩
theorem cs_one (zs : List Int) : ∀ u ∈ cs zs, u.oneCell' = true := by
  intro u hu
  obtain ⟨_, _, rfl⟩ := List.mem_map.1 hu
  rfl

/-- THE SLICE (a, n, ..) READS AS THE BYTES zs. -/
def Rd (w : World) (a : Option Addr) (n : Nat) (zs : List Int) : Prop :=
  zs.length = n ∧ (0 < n → ∃ b off, a = some ⟨b, off, none⟩ ∧ ∀ j, j < n → w.cell? ⟨b, off + j, none⟩ = some (.int .u8 (zs.getD j 0)))

theorem Rd.len {w : World} {a : Option Addr} {n : Nat} {zs : List Int} (h : Rd w a n zs) : zs.length = n := h.1
theorem add_lit (b off j : Nat) : (⟨b, off, none⟩ : Addr).add j = ⟨b, off + j, none⟩ := by unfold Addr.add; split <;> simp_all

theorem Rd.below {w w' : World} {a : Option Addr} {n : Nat} {zs : List Int} (h : Rd w a n zs) (hb : ∀ k, k < w.heap.size → w'.heap[k]? = w.heap[k]?) : Rd w' a n zs := by
  refine ⟨h.1, fun hn => ?_⟩
  obtain ⟨b, off, rfl, hc⟩ := h.2 hn
  refine ⟨b, off, rfl, fun j hj => ?_⟩
  have h1 := hc j hj
  have hlt : b < w.heap.size := World.block_lt_of_cell? w ⟨b, off + j, none⟩ h1
  rw [← h1]
  exact World.cell?_of_block (hb b hlt)
theorem Rd.of_below {w w' : World} {a : Option Addr} {n : Nat} {zs : List Int} (h : Rd w a n zs) (hb : Below w.heap.size w w') : Rd w' a n zs := h.below hb.block

/-- v IS A ROW OF THE CALL's OWN (blocks from B on) THAT HOLDS THE BYTES bs. Behind a name, so that the walk leaves it as it stands. -/
def Own (w : World) (B : Nat) (v : Value) (bs : List Int) : Prop := w.ownsRow B 5 1 v bs.length (cs bs)
theorem Own.mono {w : World} {B B' : Nat} {v : Value} {bs : List Int} (h : Own w B v bs) (hB : B' ≤ B) : Own w B' v bs := ownsRow_mono h hB
theorem Own.alloc {w : World} {B : Nat} {v : Value} {bs : List Int} (h : Own w B v bs) (o : Obj) : Own (w.alloc o) B v bs := World.ownsRow.alloc h o
theorem Own.nil (w : World) (B : Nat) : Own w B (.slice none 0 0) [] := World.ownsRow_nil w B 5 1
theorem Own.lt {w : World} {B : Nat} {v : Value} {bs : List Int} (h : Own w B v bs) : ∀ k, v.ownBlock = some k → B ≤ k ∧ k < w.heap.size := World.ownsRow.lt h
theorem Ap.own {w w' : World} {v v' u : Value} {B : Nat} {bs : List Int} (h : Ap w v w' v') (hu : Own w B u bs) (hne : u.ownBlock = none ∨ u.ownBlock ≠ v.ownBlock) : Own w' B u bs := h.keeps hu hne
theorem Own.of_below {w w' : World} {B : Nat} {v : Value} {bs : List Int} (h : Own w B v bs) (hb : Below w.heap.size w w') : Own w' B v bs :=
  World.ownsRow.kept (row := none) h ⟨hb.os, hb.tape, hb.output, hb.size, fun k hk _ => hb.block k hk⟩ (by cases v.ownBlock <;> simp)
theorem Ap.below_row {w w' : World} {v v' : Value} {B : Nat} {bs : List Int} {w0 : World} (h : Ap w v w' v') (ho : Own w B v bs) (hb : Below B w0 w) (hB : B ≤ w.heap.size) : Below B w0 w' :=
  h.below hb hB fun k hk => (ho.lt k hk).1
theorem Own.append {w : World} {B : Nat} {v : Value} {bs ns : List Int} {m : Nat} (h : w.ownsRow B 5 1 v (bs.length + m) (cs bs ++ cs ns)) (hm : ns.length = m) : Own w B v (bs ++ ns) := by
  unfold Own
  rw [cs_append, List.length_append, hm]
  exact h

/-- a row of the call's own, read -/
theorem ownsRow_rd {w : World} {B : Nat} {v : Value} {n : Nat} {zs : List Int} (h : w.ownsRow B 5 1 v n (cs zs)) : ∃ a cap, v = .slice a n cap ∧ Rd w a n zs ∧ n ≤ cap ∧ (a = none → n = 0 ∧ cap = 0) := by
  have hl : zs.length = n := by have := h.1; rw [cs_length] at this; omega
  rcases h.2 with ⟨rfl, rfl⟩ | ⟨g, cap, cur, rfl, hB, hg, hnc, hcm, hcs, htake⟩
  · exact ⟨none, 0, rfl, ⟨hl, fun h => absurd h (by omega)⟩, by omega, fun _ => ⟨rfl, rfl⟩⟩
  · refine ⟨some ⟨g, 0, none⟩, cap, rfl, ⟨hl, fun _ => ⟨g, 0, rfl, fun j hj => ?_⟩⟩, hnc, fun h => by cases h⟩
    have := h.cells (g := g) rfl j (.int .u8 (zs.getD j 0)) (by simp [cs, List.getD, List.getElem?_eq_getElem (show j < zs.length by omega)])
    rw [add_lit] at this
    exact this

theorem Own.rd {w : World} {B : Nat} {v : Value} {bs : List Int} (h : Own w B v bs) : ∃ a cap, v = .slice a bs.length cap ∧ Rd w a bs.length bs ∧ bs.length ≤ cap ∧ (a = none → bs.length = 0 ∧ cap = 0) := ownsRow_rd h

/-- what an append reads of such a slice -/
theorem Rd.src {P : Program} {w : World} {a : Option Addr} {n cap : Nat} {zs : List Int} {t : TypeId} (h : Rd w a n zs) (hk : P.underlying t = some (.slice 5)) : Src P 1 t (.slice a n cap) n (cs zs) w := by
  have hl : zs.length = n := h.1
  by_cases hn : 0 < n
  · obtain ⟨b, off, rfl, hc⟩ := h.2 hn
    refine Src.ofSlice w hk _ n cap _ (by rw [cs_length, Nat.mul_one, hl]) (fun j u hu => ?_) (cs_one zs)
    obtain ⟨hj, rfl⟩ := cs_get hu
    rw [add_lit]
    exact hc j (by omega)
  · obtain rfl : n = 0 := by omega
    obtain rfl : zs = [] := List.eq_nil_of_length_eq_zero hl
    cases a with
    | none => exact Src.ofNil w hk cap
    | some x => exact Src.ofSlice w hk x 0 cap [] (by simp) (fun j u hu => by simp at hu) (fun u hu => by simp at hu)

end Go.Proofs.Qxb6602854a.bys

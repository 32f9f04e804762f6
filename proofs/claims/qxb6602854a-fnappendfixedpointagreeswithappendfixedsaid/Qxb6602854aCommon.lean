import Derived.Test.Qxb6602854aRows
import Derived.Test.Qxb6602854aBytes
import Derived.Test.Qxb6602854aPlace
import Derived.Lib.SliceRun
import Derived.Deep.QuietTactic
import Derived.BigQuiet
import Derived.Deep.DeepMust
namespace Go.Proofs.Qxb6602854a.bys
open Go.RowKit
theorem info5 : (Try.prog.info? 5).map (fun i => (i.zero, i.size, i.bytes)) = some (some (.int .u8 0), 1, 1) := by kernel_rfl
theorem size5 : (Try.prog.info? 5).map (·.size) = some 1 := by kernel_rfl

theorem splice_all {L X : List Value} (h : L.length = X.length) : splice L 0 X = X := by
  simp [splice, List.drop_eq_nil_of_le (Nat.le_of_eq h)]

/-- a guard: the next operation is a copy (taken 'with_reducible', it looks at the goal's text alone) -/
theorem at_copy {P : Program} {ops : Array Oper} {Q : Exit → Act → World → Prop} {rest : List Oper} {a : Act} {w : World} {dst : Option Tmp} {d s : Operand} {dT sT ty : TypeId} {pos : String} {after : Array Edge} {g : Option (Nat × Bool)}
    (h : wpList P ops Q ({ dst := dst, op := .call { callee := .builtin .copy, args := #[d, s], argTypes := #[dT, sT] }, type := ty, pos := pos, after := after, guard := g } :: rest) a w) :
    wpList P ops Q ({ dst := dst, op := .call { callee := .builtin .copy, args := #[d, s], argTypes := #[dT, sT] }, type := ty, pos := pos, after := after, guard := g } :: rest) a w := h
/-- a cell of what is read -/
theorem rd_cell {w : World} {x : Addr} {n : Nat} {zs : List Int} (h : Rd w (some x) n zs) {j : Nat} {u : Value} (hu : (cs zs)[j]? = some u) : w.cell? (x.add j) = some u := by
  obtain ⟨hj, rfl⟩ := cs_get hu
  have h1 := h.1
  obtain ⟨b, off, e, hc⟩ := h.2 (by omega)
  simp at e
  rw [e, add_lit]
  exact hc j (by omega)
/-- the block of a row that 'make' has just laid -/
theorem own_block {w : World} {B g n c : Nat} {xs : List Value} (h : w.ownsRow B 5 1 (.slice (some ⟨g, 0, none⟩) n c) n xs) : ∃ L : List Value, w.heap[g]? = some (.cells L.toArray 5 (0, 0)) ∧ L.length = c ∧ n ≤ c := by
  rcases h.2 with ⟨h1, _⟩ | ⟨g', cap, cur, h1, hB, hg, hnc, hcm, hcs, htake⟩
  · simp at h1
  · simp at h1
    obtain ⟨rfl, rfl⟩ := h1
    exact ⟨cur.toList, by simpa using hg, by simpa using hcs, hnc⟩
theorem own_of_block {w : World} {B g n : Nat} {zs : List Int} (hg : w.heap[g]? = some (.cells (cs zs).toArray 5 (0, 0))) (hB : B ≤ g) (hn : zs.length = n) (hm : n ≤ maxLen) : Own w B (.slice (some ⟨g, 0, none⟩) n n) zs := by
  subst hn
  exact ⟨by rw [cs_length]; omega, .inr ⟨g, zs.length, _, rfl, hB, hg, Nat.le_refl _, hm, by simp [cs_length], by simp [List.take_of_length_le (show (cs zs).length ≤ zs.length by rw [cs_length]; omega)]⟩⟩

theorem clone_nil (w : World) : Calls Try.prog 12 #[.slice none 0 0] w fun e w' => e = .returned (.slice none 0 0) ∧ w' = w := by
  have q26 : ∀ (w : World) (a : Option Addr) (n c n' c' : Nat), (binOp .eql 26 (.slice a n c) (.slice none n' c')).run Try.prog w = .ok (.bool a.isNone) w := fun w a n c n' c' => Lib.run_eql_slice_nil w _ _ a n c n' c' Try.underlying26
  go_enter Try.func12, Try.ntmps12
  go_wp2
  go_ret
  exact ⟨rfl, rfl⟩

set_option maxHeartbeats 400000 in
theorem clone_some (x : Addr) (n cap : Nat) (zs : List Int) (w : World) (hR : Rd w (some x) n zs) (hn : n ≤ 1048576) :
    Calls Try.prog 12 #[.slice (some x) n cap] w fun e w' => ∃ a', e = .returned (.slice a' n n) ∧ Own w' w.heap.size (.slice a' n n) zs ∧ Below w.heap.size w w' ∧ ((a' = none ∧ n = 0) ∨ ∃ g, a' = some ⟨g, 0, none⟩ ∧ w.heap.size ≤ g) := by
  have q26 : ∀ (w : World) (a : Option Addr) (n c n' c' : Nat), (binOp .eql 26 (.slice a n c) (.slice none n' c')).run Try.prog w = .ok (.bool a.isNone) w := fun w a n c n' c' => Lib.run_eql_slice_nil w _ _ a n c n' c' Try.underlying26
  obtain ⟨i0, hi, hz0, hz1, hz2⟩ := info_parts info5
  have HR : Hid (Rd w (some x) n zs) := hR
  clear hR
  go_enter Try.func12, Try.ntmps12
  go_wp2_with (first
    | (at_make; refine wpList_make_full _ rfl _ _ 26 rfl w.heap.size 5 i0 (.int .u8 0) 1 Try.underlying26 hi hz0 hz1 _ _ _ _ n rfl rfl rfl rfl (by rw [hz2]; omega) (by unfold maxLen; omega) (Nat.le_refl _) ?_; intro w1 hown hgr; have hb1 : Below w.heap.size w w1 := (Below.refl _ w).grown hgr (Nat.le_refl _) (by simp); have HR1 : Hid (Rd w1 (some x) n zs) := HR.out.of_below hb1; obtain ⟨L, hg, hL, _⟩ := own_block hown; clear hown hgr)
    | (with_reducible refine at_copy ?_; go_must (refine wpList_copy_splice rfl (.tmp 9) (.tmp 10) 26 26 rfl 5 Try.underlying26 size5 _ _ _ _ _ _ rfl rfl w.heap.size 0 L 5 hg (cs zs) (by rw [cs_length, HR1.out.len]; exact (Nat.min_self n).symm) (fun h => ⟨rfl, x, rfl, fun j u hu => rd_cell HR1.out hu⟩) (by rw [cs_length, HR1.out.len, hL]; omega) (cs_one zs) w.heap.size w hb1 (Nat.le_refl _) ?_); intro w2 hg2 hb2))
  go_ret
  refine ⟨some ⟨w.heap.size, 0, none⟩, rfl, own_of_block ?_ (Nat.le_refl _) HR1.out.len (by unfold maxLen; omega), hb2, .inr ⟨_, rfl, Nat.le_refl _⟩⟩
  rw [← splice_all (L := L) (X := cs zs) (by rw [cs_length, HR1.out.len, hL])]
  exact hg2.out

theorem clone_any (a : Option Addr) (n cap : Nat) (zs : List Int) (w : World) (hR : Rd w a n zs) (hnil : a = none → n = 0 ∧ cap = 0) (hn : n ≤ 1048576) :
    Calls Try.prog 12 #[.slice a n cap] w fun e w' => ∃ a', e = .returned (.slice a' n n) ∧ Own w' w.heap.size (.slice a' n n) zs ∧ Below w.heap.size w w' ∧ ((a' = none ∧ n = 0) ∨ ∃ g, a' = some ⟨g, 0, none⟩ ∧ w.heap.size ≤ g) := by
  cases a with
  | none =>
    obtain ⟨rfl, rfl⟩ := hnil rfl
    obtain rfl : zs = [] := List.eq_nil_of_length_eq_zero hR.1
    refine (clone_nil w).mono ?_
    rintro e w' ⟨rfl, rfl⟩
    exact ⟨none, rfl, Own.nil _ _, Below.refl _ _, .inl ⟨rfl, rfl⟩⟩
  | some x => exact clone_some x n cap zs w hR hn

set_option maxHeartbeats 400000 in
theorem equal_any (a1 a2 : Option Addr) (n c1 c2 : Nat) (zs : List Int) (w : World) (h1 : Rd w a1 n zs) (h2 : Rd w a2 n zs) (hn : n ≤ 1099511627776) :
    Calls Try.prog 15 #[.slice a1 n c1, .slice a2 n c2] w fun e w' => e = .returned (.bool true) ∧ ∃ q, w' = w.drewN q := by
  by_cases hp : 0 < n
  · obtain ⟨b1, o1, rfl, hc1⟩ := h1.2 hp
    obtain ⟨b2, o2, rfl, hc2⟩ := h2.2 hp
    have H1 : Hid (∀ j, j < n → w.cell? ⟨b1, o1 + j, none⟩ = some (.int .u8 (zs.getD j 0))) := hc1
    have H2 : Hid (∀ j, j < n → w.cell? ⟨b2, o2 + j, none⟩ = some (.int .u8 (zs.getD j 0))) := hc2
    clear h1 h2 hc1 hc2
    go_enter Try.func15, Try.ntmps15
    go_wp2
    go_loopw [5] (fun i wr => ∃ k q : Nat, k ≤ n ∧ i = .int .i64 k ∧ wr = w.drewN q) (fun i _ => n - (intOf i).toNat)
    case atStart => exact ⟨0, 0, Nat.zero_le _, rfl, rfl⟩
    case round =>
      obtain ⟨k, q, hk, rfl, rfl⟩ := hrel
      by_cases hlt : k < n
      · have g1 := H1.out k hlt
        have g2 := H2.out k hlt
        go_wp2
        go_quiet (fail)
        go_wp2
        go_roundw
        case rel => exact ⟨k + 1, _, by omega, by go_num, rfl⟩
        case measure => simp [intOf]; omega
      · go_wp2
        go_ret
        exact ⟨rfl, _, rfl⟩
  · obtain rfl : n = 0 := by omega
    go_enter Try.func15, Try.ntmps15
    go_wp2
    refine wp_loop_rounds 1 ?_
    rw [rounds_succ]
    go_wp2
    go_ret
    exact ⟨rfl, 0, rfl⟩
abbrev ZT : ByteArray := { data := #[48, 48, 48, 48, 48, 48, 48, 48, 48, 48, 48, 48, 48, 48, 48, 48, 48, 48, 48, 48, 48, 48, 48, 48, 48, 48, 48, 48, 48, 48, 48, 48, 48, 48, 48, 48, 48, 48, 48, 48, 48, 48, 48, 48, 48, 48, 48, 48, 48, 48, 48, 48, 48, 48, 48, 48, 48, 48, 48, 48, 48, 48, 48, 48] }
theorem byteCells_zt (k : Nat) (hk : k ≤ 64) : byteCells (ZT.extract 0 k) = cs (zz k) ∧ (ZT.extract 0 k).size = k := by
  have h : ZT.data.toList = List.replicate 64 48 := by decide
  have h2 : (ZT.extract 0 k).data.toList = List.replicate k 48 := by
    rw [ByteArray.data_extract, Array.toList_extract, h]
    rw [List.extract_eq_take_drop, List.drop_zero, Nat.sub_zero, List.take_replicate, Nat.min_eq_left hk]
  have h3 : byteCells (ZT.extract 0 k) = cs (zz k) := by
    unfold byteCells cs zz
    rw [h2]
    simp
  refine ⟨h3, ?_⟩
  have := byteCells_length (ZT.extract 0 k)
  rw [h3, cs_length] at this
  rw [← this]; simp [zz]
theorem src64 (w : World) : Src Try.prog 1 9 (.string ZT) 64 (cs (zz 64)) w := by
  have h := Src.ofString (P := Try.prog) w (tx := 9) Try.underlying9 ZT
  have e : byteCells ZT = cs (zz 64) := rfl
  rw [e] at h
  exact h
theorem srcZ (w : World) (k : Nat) (hk : k ≤ 64) : Src Try.prog 1 9 (.string (ZT.extract 0 k)) k (cs (zz k)) w := by
  have h := Src.ofString (P := Try.prog) w (tx := 9) Try.underlying9 (ZT.extract 0 k)
  obtain ⟨h1, h2⟩ := byteCells_zt k hk
  rw [h1, h2] at h
  exact h
theorem zz_add (r k : Nat) : zz (r : Int) ++ zz (k : Int) = zz ((r + k : Nat) : Int) := by
  unfold zz
  rw [List.replicate_append_replicate]
  congr 1
theorem zz_own {w : World} {B : Nat} {v : Value} {bs : List Int} {r k : Nat} (h : w.ownsRow B 5 1 v ((bs ++ zz r).length + k) (cs (bs ++ zz r) ++ cs (zz k))) : Own w B v (bs ++ zz ((r + k : Nat) : Int)) := by
  rw [← zz_add, ← List.append_assoc]
  exact Own.append h (by simp [zz])
set_option maxHeartbeats 400000 in
theorem zeros_any (v : Value) (B : Nat) (bs : List Int) (N : Int) (w : World) (hown : Own w B v bs) (hB : B ≤ w.heap.size) (hl : bs.length ≤ 1073741824) (hN : N ≤ 1073741824) (hN0 : -1099511627776 ≤ N) :
    Calls Try.prog 25 #[v, .int .i64 N] w fun e w' => ∃ v', e = .returned v' ∧ Own w' B v' (bs ++ zz N) ∧ Ap w v w' v' := by
  obtain ⟨i0, hi, hz0, hz1, hz2⟩ := info_parts info5
  have HO : Hid (Own w B v bs) := hown
  clear hown
  go_enter Try.func25, Try.ntmps25
  go_wp2
  go_loopw [0, 1] (fun d n wr => ∃ r : Nat, r ≤ N.toNat ∧ n = .int .i64 (N - r) ∧ Hid (Own wr B d (bs ++ zz r)) ∧ Hid (Ap w v wr d)) (fun _ n _ => (intOf n).toNat)
  case atStart => exact ⟨0, by omega, by simp, (by have := HO.out; simpa [zz, Hid] using this), Ap.refl _ _⟩
  case round =>
    obtain ⟨r, hr, rfl, HO1, HA⟩ := hrel
    have hzl : (bs ++ zz r).length = bs.length + r := by simp [zz]
    have HZ : Hid ((bs ++ zz r).length = bs.length + r) := hzl
    clear hzl
    have hBr : B ≤ wr.heap.size := Nat.le_trans hB HA.out.1.size
    by_cases h64 : 64 < N - r
    · go_wp2_with (at_builtin; go_must (refine wpList_append_src _ rfl _ _ 26 9 rfl B 5 i0 (.int .u8 0) 1 1 Try.underlying26 hi hz0 hz1 hz2 rfl (by decide) _ _ _ rfl HO1.out _ 64 (cs (zz 64)) rfl (src64 _) (by rw [HZ.out]; unfold maxLen; omega) (by rw [HZ.out]; omega) hBr ?_); intro v1 w1 ho1 ha1)
      go_roundw
      case rel => 
        refine ⟨r + 64, by omega, by go_num, ?_, HA.out.trans ha1⟩
        exact zz_own ho1
      case measure => simp [intOf]; omega
    · by_cases h0 : 0 ≤ N - r
      · have hk : N.toNat - r ≤ 64 := by omega
        go_wp2_with (at_builtin; go_must (refine wpList_append_src _ rfl _ _ 26 9 rfl B 5 i0 (.int .u8 0) 1 1 Try.underlying26 hi hz0 hz1 hz2 rfl (by decide) _ _ _ rfl HO1.out _ (N.toNat - r) (cs (zz ((N.toNat - r : Nat) : Int))) rfl (srcZ _ (N.toNat - r) hk) (by rw [HZ.out]; unfold maxLen; omega) (by rw [HZ.out]; omega) hBr ?_); intro v1 w1 ho1 ha1)
        go_ret
        refine ⟨v1, rfl, ?_, HA.out.trans ha1⟩
        have e : zz N = zz ((r + (N.toNat - r) : Nat) : Int) := by unfold zz; congr 1; omega
        rw [e]
        exact zz_own ho1
      · obtain rfl : r = 0 := by omega
        go_wp2_with (at_builtin; go_must (refine wpList_append_src _ rfl _ _ 26 9 rfl B 5 i0 (.int .u8 0) 1 1 Try.underlying26 hi hz0 hz1 hz2 rfl (by decide) _ _ _ rfl HO1.out _ 0 (cs (zz 0)) rfl (srcZ _ 0 (by omega)) (by rw [HZ.out]; unfold maxLen; omega) (by rw [HZ.out]; omega) hBr ?_); intro v1 w1 ho1 ha1)
        go_ret
        refine ⟨v1, rfl, ?_, HA.out.trans ha1⟩
        have e : zz N = zz ((0 + 0 : Nat) : Int) := by unfold zz; congr 1; omega
        rw [e]
        exact zz_own ho1
end Go.Proofs.Qxb6602854a.bys

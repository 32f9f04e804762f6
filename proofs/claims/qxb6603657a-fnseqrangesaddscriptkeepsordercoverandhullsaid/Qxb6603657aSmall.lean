import Derived.Test.Qxb6603657aInts
import Derived.Lib.SliceRun
import Derived.Deep.QuietTactic
import Derived.BigQuiet
import Derived.Deep.DeepMust
namespace Go.Proofs.Qxb6603657a.sr
open Go.RowKit
theorem clone_nil (w : World) : Calls Try.prog 9 #[.slice none 0 0] w fun e w' => e = .returned (.slice none 0 0) ∧ w' = w := by
  have q22 : ∀ (w : World) (a : Option Addr) (n c n' c' : Nat), (binOp .eql 22 (.slice a n c) (.slice none n' c')).run Try.prog w = .ok (.bool a.isNone) w := fun w a n c n' c' => Lib.run_eql_slice_nil w _ _ a n c n' c' Try.underlying22
  go_enter Try.func9, Try.ntmps9
  go_wp2
  go_ret
  exact ⟨rfl, rfl⟩
theorem getD_set_last {D : List Int} {k : Nat} {x : Int} (hk : k < D.length) : (D.set k x).take (k + 1) = D.take k ++ [x] := take_set hk
theorem take_next {zs : List Int} {k : Nat} (h : k < zs.length) : zs.take (k + 1) = zs.take k ++ [zs.getD k 0] := by
  rw [List.take_add_one]
  congr 1
  simp [List.getD, h]
set_option maxHeartbeats 400000 in
theorem clone_some (x : Addr) (n cap : Nat) (zs : List Int) (w : World) (hR : Rd w (some x) n zs) (hn : n ≤ 1048576) :
    Calls Try.prog 9 #[.slice (some x) n cap] w fun e w' => e = .returned (.slice (some ⟨w.heap.size, 0, none⟩) n n) ∧ IRow w' w.heap.size zs ∧ w.grownBy w' none := by
  have q22 : ∀ (w : World) (a : Option Addr) (n c n' c' : Nat), (binOp .eql 22 (.slice a n c) (.slice none n' c')).run Try.prog w = .ok (.bool a.isNone) w := fun w a n c n' c' => Lib.run_eql_slice_nil w _ _ a n c n' c' Try.underlying22
  have HR : Hid (Rd w (some x) n zs) := hR
  clear hR
  go_enter Try.func9, Try.ntmps9
  go_wp2_with (at_make; refine wpList_make_ints rfl _ _ 22 rfl Try.underlying22 _ _ n n rfl rfl (Nat.le_refl _) hn ?_; intro w1 hI1 hG1)
  go_loopw [4] (fun i wr => ∃ (k : Nat) (D : List Int), k ≤ n ∧ i = .int .i64 k ∧ Hid (IRow wr w.heap.size D ∧ D.length = n ∧ D.take k = zs.take k ∧ w.grownBy wr none)) (fun i _ => n - (intOf i).toNat)
  case atStart => exact ⟨0, _, Nat.zero_le _, rfl, hI1, by simp, by simp, hG1⟩
  case round =>
    obtain ⟨k, D, hk, rfl, HI⟩ := hrel
    clear hI1 hG1
    by_cases hlt : k < n
    · obtain ⟨z, hz⟩ : ∃ z, z = zs.getD k 0 := ⟨_, rfl⟩
      obtain ⟨b, off, hx, hc⟩ := HR.out.2 (by omega)
      simp at hx
      subst hx
      have hlb : b < w.heap.size := World.block_lt_of_cell? w ⟨b, off + k, none⟩ (hc k hlt)
      have g1 : wr.cell? ⟨b, off + k, none⟩ = some (.int .i64 z) := by
        rw [World.cell?_of_block (w := w) (HI.out.2.2.2.block b hlb (by simp)), hc k hlt, hz]
      have g2 := HI.out.1.at (k := k) (by rw [HI.out.2.1]; exact hlt)
      have g3 := HI.out.1.free k
      generalize D.getD k 0 = old at g2
      have HZ : Hid (z = zs.getD k 0) := hz
      clear hc hlb hz
      go_wp2
      go_roundw
      case rel =>
        have hp := HI.out.1.put k z
        refine ⟨k + 1, D.set k z, by omega, by go_num, hp.1, by simpa using HI.out.2.1, ?_, ?_⟩
        · rw [take_set (by rw [HI.out.2.1]; exact hlt), HI.out.2.2.1, take_next (by rw [HR.out.len]; exact hlt), HZ.out]
        · refine ⟨hp.2.os.trans HI.out.2.2.2.os, hp.2.tape.trans HI.out.2.2.2.tape, hp.2.output.trans HI.out.2.2.2.output, Nat.le_trans HI.out.2.2.2.size hp.2.size, fun j hj hne => ?_⟩
          rw [hp.2.block j (Nat.lt_of_lt_of_le hj HI.out.2.2.2.size) (by simp; omega)]
          exact HI.out.2.2.2.block j hj hne
      case measure => simp [intOf]; omega
    · go_wp2
      go_ret
      obtain rfl : k = n := by omega
      have e : D = zs := by
        have := HI.out.2.2.1
        rwa [List.take_of_length_le (by rw [HI.out.2.1]; exact Nat.le_refl _), List.take_of_length_le (by rw [HR.out.len]; exact Nat.le_refl _)] at this
      subst e
      exact ⟨rfl, HI.out.1, HI.out.2.2.2⟩

/-- the ranges of two lists -/
def zp (fs ls : List Int) : List (Int × Int) := fs.zip ls
/-- zzValidRanges's two tests at k -/
def v1 (fs ls : List Int) (k : Nat) : Bool := decide (fs.getD k 0 = -9223372036854775808) || decide (ls.getD k 0 < fs.getD k 0)
def v2 (fs ls : List Int) (k : Nat) : Bool := decide (0 < k) && decide (fs.getD k 0 - 1 ≤ ls.getD (k - 1) 0)
def okK (fs ls : List Int) (k : Nat) : Prop := v1 fs ls k = false ∧ v2 fs ls k = false
set_option maxHeartbeats 400000 in
theorem valid_any (a1 a2 : Option Addr) (n c1 c2 : Nat) (fs ls : List Int) (w : World) (h1 : Rd w a1 n fs) (h2 : Rd w a2 n ls) (hn : n ≤ 1099511627776) (hlo : ∀ z ∈ fs, -9223372036854775808 ≤ z ∧ z ≤ 9223372036854775807) :
    Calls Try.prog 8 #[.slice a1 n c1, .slice a2 n c2] w fun e w' => (∃ b : Bool, e = .returned (.bool b) ∧ (b = true → ∀ k, k < n → okK fs ls k)) ∧ ∃ q, w' = w.drewN q := by
  by_cases hp : 0 < n
  · obtain ⟨b1, o1, rfl, hc1⟩ := h1.2 hp
    obtain ⟨b2, o2, rfl, hc2⟩ := h2.2 hp
    have H1 : Hid (∀ j, j < n → w.cell? ⟨b1, o1 + j, none⟩ = some (.int .i64 (fs.getD j 0))) := hc1
    have H2 : Hid (∀ j, j < n → w.cell? ⟨b2, o2 + j, none⟩ = some (.int .i64 (ls.getD j 0))) := hc2
    have HL : Hid (∀ j, j < n → -9223372036854775808 ≤ fs.getD j 0 ∧ fs.getD j 0 ≤ 9223372036854775807) := fun j hj => hlo _ (by
      have e : fs.getD j 0 = fs[j]'(by rw [h1.len]; exact hj) := by simp [List.getD, h1.len, hj]
      rw [e]; exact List.getElem_mem _)
    clear h1 h2 hc1 hc2 hlo
    go_enter Try.func8, Try.ntmps8
    go_wp2
    go_loopw [5] (fun i wr => ∃ k q : Nat, k ≤ n ∧ i = .int .i64 k ∧ wr = w.drewN q ∧ Hid (∀ j, j < k → okK fs ls j)) (fun i _ => n - (intOf i).toNat)
    case atStart => exact ⟨0, 0, Nat.zero_le _, rfl, rfl, fun j hj => absurd hj (by omega)⟩
    case round =>
      obtain ⟨k, q, hk, rfl, rfl, HK⟩ := hrel
      by_cases hlt : k < n
      · have g1 := H1.out k hlt
        have g2 := H2.out k hlt
        have g4 := HL.out k hlt
        obtain ⟨f, hf⟩ : ∃ f, f = fs.getD k 0 := ⟨_, rfl⟩
        obtain ⟨l, hl⟩ : ∃ l, l = ls.getD k 0 := ⟨_, rfl⟩
        rw [← hf] at g1 g4
        rw [← hl] at g2
        have HF : Hid (f = fs.getD k 0) := hf
        have HLL : Hid (l = ls.getD k 0) := hl
        clear hf hl
        by_cases hf0 : f = -9223372036854775808
        · subst hf0
          go_wp2
          go_quiet (fail)
          go_wp2
          go_ret
          exact ⟨⟨_, rfl, fun h => by simp at h⟩, _, by simp only [World.drewN_drewN]; rfl⟩
        · have hd0 : decide (f = -9223372036854775808) = false := decide_eq_false hf0
          by_cases hfl : l < f
          · have hd1 : decide (l < f) = true := decide_eq_true hfl
            go_wp2
            go_quiet (fail)
            go_wp2
            go_ret
            exact ⟨⟨_, rfl, fun h => by simp at h⟩, _, by simp only [World.drewN_drewN]; rfl⟩
          · have hd1 : decide (l < f) = false := decide_eq_false hfl
            have HV1 : Hid (v1 fs ls k = false) := by unfold Hid v1; rw [← HF.out, ← HLL.out, hd0, hd1]; rfl
            go_wp2
            go_quiet (fail)
            go_wp2
            clear g2 hd0 hd1
            by_cases hk0 : k = 0
            · subst hk0
              go_quiet (fail)
              go_wp2
              go_roundw
              case rel => exact ⟨0 + 1, _, by omega, by go_num, rfl, fun j hj => by obtain rfl : j = 0 := by omega
                                                                                    exact ⟨HV1.out, by simp [v2]⟩⟩
              case measure => simp [intOf]; omega
            · have hkp : 0 < k := by omega
              have g2 := H2.out (k - 1) (by omega)
              obtain ⟨p, hp⟩ : ∃ p, p = ls.getD (k - 1) 0 := ⟨_, rfl⟩
              rw [← hp] at g2
              have HP : Hid (p = ls.getD (k - 1) 0) := hp
              clear hp
              have hw1 : IntKind.i64.wrap (f - 1) = f - 1 := by rw [IntKind.wrap_i64]; omega
              have hw2 : IntKind.i64.wrap ((k : Int) - 1) = (k : Int) - 1 := by rw [IntKind.wrap_i64]; omega
              have hb1 : (0 : Int) ≤ (k : Int) - 1 := by omega
              have hb2 : (k : Int) - 1 < (n : Int) := by omega
              have htn : ((k : Int) - 1).toNat = k - 1 := by omega
              have hd2 : decide ((0 : Int) < (k : Int)) = true := decide_eq_true (by omega)
              by_cases hpf : f - 1 ≤ p
              · have hd3 : decide (f - 1 ≤ p) = true := decide_eq_true hpf
                go_quiet (fail)
                go_wp2
                go_ret
                exact ⟨⟨_, rfl, fun h => by simp at h⟩, _, by simp only [World.drewN_drewN]; rfl⟩
              · have hd3 : decide (f - 1 ≤ p) = false := decide_eq_false hpf
                go_quiet (fail)
                go_wp2
                go_roundw
                case rel =>
                  refine ⟨k + 1, _, by omega, by go_num, rfl, fun j hj => ?_⟩
                  by_cases hjk : j < k
                  · exact HK.out j hjk
                  · obtain rfl : j = k := by omega
                    refine ⟨HV1.out, ?_⟩
                    unfold v2
                    rw [← HF.out, ← HP.out, hd3, Bool.and_false]
                case measure => simp [intOf]; omega
      · go_wp2
        go_ret
        exact ⟨⟨_, rfl, fun _ j hj => HK.out j (by omega)⟩, _, rfl⟩
  · obtain rfl : n = 0 := by omega
    go_enter Try.func8, Try.ntmps8
    go_wp2
    refine wp_loop_rounds 1 ?_
    rw [rounds_succ]
    go_wp2
    go_ret
    exact ⟨⟨_, rfl, fun _ k hk => absurd hk (by omega)⟩, 0, rfl⟩

theorem bytes7 (a0 a1 : Option Addr) (n0 c0 n1 c1 : Nat) (F L R : Int) (w : World) (h0 : n0 ≤ 9223372036854775807) (h1 : n1 ≤ 9223372036854775807) :
    Calls Try.prog 7 #[.slice a0 n0 c0, .slice a1 n1 c1, .int .i64 F, .int .i64 L, .int .i64 R] w fun e w' => (∃ b : Bool, e = .returned (.bool b) ∧ (b = true → n0 + n1 ≤ 1048576)) ∧ w' = w := by
  by_cases k0 : 1048576 < n0
  · go_enter Try.func7, Try.ntmps7
    go_wp2
    go_ret
    exact ⟨⟨_, rfl, fun h => by simp at h⟩, rfl⟩
  · by_cases k1 : 1048576 < n1
    · go_enter Try.func7, Try.ntmps7
      go_wp2
      go_ret
      exact ⟨⟨_, rfl, fun h => by simp at h⟩, rfl⟩
    · by_cases k2 : 1048576 < n0 + n1
      · have hk2 : (1048576 : Int) < (n0 : Int) + (n1 : Int) := by omega
        go_enter Try.func7, Try.ntmps7
        go_wp2
        go_ret
        exact ⟨⟨_, rfl, fun h => by simp at h⟩, rfl⟩
      · have hk2 : ¬ (1048576 : Int) < (n0 : Int) + (n1 : Int) := by omega
        go_enter Try.func7, Try.ntmps7
        go_wp2
        go_ret
        exact ⟨.inr ⟨rfl, by omega⟩, rfl⟩
theorem bytes12 (a0 a1 : Option Addr) (n0 c0 n1 c1 : Nat) (w : World) (h0 : n0 ≤ 9223372036854775807) (h1 : n1 ≤ 9223372036854775807) :
    Calls Try.prog 12 #[.slice a0 n0 c0, .slice a1 n1 c1] w fun e w' => (∃ b : Bool, e = .returned (.bool b) ∧ (b = true → n0 + n1 ≤ 1048576)) ∧ w' = w := by
  by_cases k0 : 1048576 < n0
  · go_enter Try.func12, Try.ntmps12
    go_wp2
    go_ret
    exact ⟨⟨_, rfl, fun h => by simp at h⟩, rfl⟩
  · by_cases k1 : 1048576 < n1
    · go_enter Try.func12, Try.ntmps12
      go_wp2
      go_ret
      exact ⟨⟨_, rfl, fun h => by simp at h⟩, rfl⟩
    · by_cases k2 : 1048576 < n0 + n1
      · have hk2 : (1048576 : Int) < (n0 : Int) + (n1 : Int) := by omega
        go_enter Try.func12, Try.ntmps12
        go_wp2
        go_ret
        exact ⟨⟨_, rfl, fun h => by simp at h⟩, rfl⟩
      · have hk2 : ¬ (1048576 : Int) < (n0 : Int) + (n1 : Int) := by omega
        go_enter Try.func12, Try.ntmps12
        go_wp2
        go_ret
        exact ⟨.inr ⟨rfl, by omega⟩, rfl⟩
end Go.Proofs.Qxb6603657a.sr

import Derived.Test.Qxb6603657aRows
import Derived.WalkKit
import Derived.Deep.QuietTactic
import Derived.BigQuiet
namespace Go.Proofs.Qxb6603657a.sr
open Go.RowKit
set_option linter.unusedVariables false
def qB (Fr L : Int) : Bool := decide (Fr - 1 ≤ L)
set_option maxHeartbeats 400000 in
theorem clo (b1 b2 g n cap k : Nat) (L Fr : Int) (w : World) (h1 : w.cell? ⟨b1, 0, none⟩ = some (.slice (some ⟨g, 0, none⟩) n cap)) (h2 : w.cell? ⟨b2, 0, none⟩ = some (.int .i64 Fr))
   (hk : k < n) (hn : n ≤ 1048576) (hF : -9223372036854775808 < Fr) (hF2 : Fr ≤ 9223372036854775807) (hc : w.cell? ⟨g, k * 2 + 1, none⟩ = some (.int .i64 L)) :
    Calls Try.prog 34 #[.int .i64 k, .pointer (some ⟨b1, 0, none⟩), .pointer (some ⟨b2, 0, none⟩)] w fun e w' => e = .returned (.bool (qB Fr L)) ∧ ∃ q, w' = w.drewN q := by
  go_enter Try.func34, Try.ntmps34
  go_wp2
  go_quiet (fail)
  go_wp2
  go_ret
  exact ⟨rfl, _, rfl⟩
theorem clo_as (b1 b2 g n cap k : Nat) (L Fr : Int) (w : World) (q : Nat) (b : Bool) (hb : qB Fr L = b) (h1 : w.cell? ⟨b1, 0, none⟩ = some (.slice (some ⟨g, 0, none⟩) n cap)) (h2 : w.cell? ⟨b2, 0, none⟩ = some (.int .i64 Fr))
   (hk : k < n) (hn : n ≤ 1048576) (hF : -9223372036854775808 < Fr) (hF2 : Fr ≤ 9223372036854775807) (hc : w.cell? ⟨g, k * 2 + 1, none⟩ = some (.int .i64 L)) :
    Calls Try.prog 34 #[.int .i64 k, .pointer (some ⟨b1, 0, none⟩), .pointer (some ⟨b2, 0, none⟩)] (w.drewN q) fun e w' => e = .returned (.bool b) ∧ ∃ q, w' = w.drewN q := by
  subst hb
  refine (clo b1 b2 g n cap k L Fr (w.drewN q) (by rw [World.cell?_drewN]; exact h1) (by rw [World.cell?_drewN]; exact h2) hk hn hF hF2 (by rw [World.cell?_drewN]; exact hc)).mono ?_
  rintro e w' ⟨rfl, q', rfl⟩
  exact ⟨rfl, q + q', World.drewN_drewN _ _ _⟩
set_option maxHeartbeats 400000 in
theorem search (b1 b2 g n cap : Nat) (Ls : Nat → Int) (Fr : Int) (w : World) (h1 : w.cell? ⟨b1, 0, none⟩ = some (.slice (some ⟨g, 0, none⟩) n cap)) (h2 : w.cell? ⟨b2, 0, none⟩ = some (.int .i64 Fr))
   (hn : n ≤ 1048576) (hF : -9223372036854775808 < Fr) (hF2 : Fr ≤ 9223372036854775807) (hc : ∀ k, k < n → w.cell? ⟨g, k * 2 + 1, none⟩ = some (.int .i64 (Ls k)))
   (hmono : ∀ i j, i ≤ j → j < n → qB Fr (Ls i) = true → qB Fr (Ls j) = true) :
    Calls Try.prog 33 #[.int .i64 n, .func (.func 34) #[] #[.pointer (some ⟨b1, 0, none⟩), .pointer (some ⟨b2, 0, none⟩)]] w fun e w' => ∃ i : Nat, e = .returned (.int .i64 i) ∧ i ≤ n ∧ (∀ k, k < i → qB Fr (Ls k) = false) ∧ (∀ k, i ≤ k → k < n → qB Fr (Ls k) = true) ∧ ∃ q, w' = w.drewN q := by
  have HC : Hid (∀ k, k < n → w.cell? ⟨g, k * 2 + 1, none⟩ = some (.int .i64 (Ls k))) := hc
  have HM : Hid (∀ i j, i ≤ j → j < n → qB Fr (Ls i) = true → qB Fr (Ls j) = true) := hmono
  clear hc hmono
  go_enter Try.func33, Try.ntmps33
  go_wp2
  go_loopw [5, 6] (fun a b wr => ∃ i j q : Nat, i ≤ j ∧ j ≤ n ∧ a = .int .i64 i ∧ b = .int .i64 j ∧ wr = w.drewN q ∧ Hid (∀ k, k < i → qB Fr (Ls k) = false) ∧ Hid (∀ k, j ≤ k → k < n → qB Fr (Ls k) = true)) (fun a b _ => (intOf b).toNat - (intOf a).toNat)
  case atStart => exact ⟨0, n, 0, by omega, by omega, rfl, rfl, rfl, fun k hk => absurd hk (by omega), fun k h1 h2 => absurd h1 (by omega)⟩
  case round =>
    obtain ⟨i, j, q, hij, hjn, rfl, rfl, rfl, H1, H2⟩ := hrel
    by_cases hlt : i < j
    · obtain ⟨m, hm⟩ : ∃ m : Nat, m = (i + j) / 2 := ⟨_, rfl⟩
      have hm1 : i ≤ m := by omega
      have hm2 : m < j := by omega
      have em : ((i : Int) + (j : Int)) / 2 = (m : Int) := by omega
      have HE : Hid (m = (i + j) / 2) := hm
      clear hm
      have hc := HC.out m (by omega)
      by_cases hb : qB Fr (Ls m) = true
      · have HB : Hid (qB Fr (Ls m) = true) := hb
        clear hb
        go_wp2_with (go_at_call 34; refine (clo_as b1 b2 g n cap m (Ls m) Fr w q true HB.out h1 h2 (by omega) hn hF hF2 hc).mono ?_; rintro e w' ⟨rfl, q', rfl⟩)
        go_roundw
        case rel =>
          refine ⟨i, m, _, by omega, by omega, rfl, rfl, rfl, H1, fun k hk1 hk2 => ?_⟩
          exact HM.out m k hk1 hk2 HB.out
        case measure => simp [intOf]; omega
      · have HB : Hid (qB Fr (Ls m) = false) := (Bool.not_eq_true _ ▸ hb :)
        clear hb
        go_wp2_with (go_at_call 34; refine (clo_as b1 b2 g n cap m (Ls m) Fr w q false HB.out h1 h2 (by omega) hn hF hF2 hc).mono ?_; rintro e w' ⟨rfl, q', rfl⟩)
        go_roundw
        case rel =>
          refine ⟨m + 1, j, _, by omega, by omega, by go_num, rfl, rfl, fun k hk => ?_, H2⟩
          rcases Nat.lt_or_ge k i with h | h
          · exact H1.out k h
          · cases hq : qB Fr (Ls k) with
            | false => rfl
            | true =>
              have := HM.out k m (by omega) (by omega) hq
              rw [HB.out] at this
              cases this
        case measure => simp [intOf]; omega
    · go_wp2
      go_ret
      exact ⟨i, rfl, by omega, H1.out, fun k h1 h2 => H2.out k (by omega) h2, q, rfl⟩
end Go.Proofs.Qxb6603657a.sr

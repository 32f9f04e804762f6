import Derived.Test.Qxb6602854aFixed
namespace Go.Proofs.Qxb6602854a.bys
open Go.RowKit
set_option linter.unusedSimpArgs false
set_option linter.unusedVariables false
set_option maxHeartbeats 800000 in
theorem mod_shid (b n : Nat) (ds : List Int) (k prec : Int) (w : World) (h0 : St w.heap.size w (.slice none 0 0) [] (some ⟨b, 0, none⟩) n ds w (.slice none 0 0) [])
    (hl2 : ds.length = n) (hn : n ≤ 1048576) (hn0 : 0 < n) (hk : 0 ≤ k) (hk2 : k ≤ 1048576) (hp : prec ≤ 0) (hp2 : -1048576 ≤ prec) :
    Calls Try.prog 13 #[.bool false, .slice (some ⟨b, 0, none⟩) n n, .int .i64 k, .int .i64 prec] w fun e w' => ∃ v', e = .returned v' ∧ Own w' w.heap.size v' (fm false ds k prec) ∧ Below w.heap.size w w' := by
  have L : Hid (ds.length = n) := hl2
  clear hl2
  have d1 : decide (k < 0) = false := by simp; omega
  have d2 : decide (0 < prec) = false := by simp; omega
  go_enter Try.func13, Try.ntmps13
  go_wp2
  go_loopw [9, 12] (fun o p wr => ∃ (t : Nat) (q : Int), t ≤ (max k 0).toNat + 1 ∧ Hid (q = min k 0 + t) ∧ 0 ≤ q ∧ q ≤ 4194304 ∧ p = .int .i64 (k - q) ∧ Hid (St w.heap.size w (.slice none 0 0) [] (some ⟨b, 0, none⟩) n ds wr o (sg false ++ mdl ds k t))) (fun _ p _ => (intOf p + 1048577).toNat)
  case atStart => exact ⟨0, min k 0, by omega, by simp [Hid], by omega, by omega, by go_num, by simpa [Hid, sg, mdl_zero] using h0⟩
  case round =>
    obtain ⟨t, q, ht, hq, hq0, hq1, rfl, H⟩ := hrel
    have hlen : ((sg false ++ mdl ds k t).length : Nat) ≤ 8388608 := by have := mdl_length ds k t; have := sg_length false; simp; omega
    by_cases hgo : (0 : Int) ≤ k - q
    · have hpt : k - q ≠ -1 := by omega
      by_cases hin : 0 ≤ q ∧ q < n
      · obtain ⟨hin1, hin2⟩ := hin
        have hc := (H.out.rd.1.at (j := (k - (k - q)).toNat) (by omega))
        rw [Nat.zero_add] at hc
        go_wp2_with (first | (at_builtin; refine wp_lit rfl (.tmp 47) (.tmp 52) rfl _ rfl rfl H.out (by simpa using Nat.le_trans hlen (by decide)) ?_; intro v4 w4 h4))
        go_roundw
        case rel =>
          refine ⟨t + 1, q + 1, by have := hq.out; omega, by have := hq.out; unfold Hid; omega, by omega, by omega, by go_num, ?_⟩
          refine St.congr h4 ?_
          rw [mdl_step hq.out hpt, chr_in (ds := ds) (q := q) (by omega) (by rw [L.out]; omega)]
          rw [show (k - (k - q)).toNat = q.toNat by omega]
          try simp
        case measure => simp [intOf]; omega
      · have hin2 : (n : Int) ≤ q := by omega
        clear hin
        go_wp2_with (first | (at_builtin; refine wp_lit rfl (.tmp 54) (.tmp 55) rfl _ rfl rfl H.out (by simpa using Nat.le_trans hlen (by decide)) ?_; intro v4 w4 h4))
        go_roundw
        case rel =>
          refine ⟨t + 1, q + 1, by have := hq.out; omega, by have := hq.out; unfold Hid; omega, by omega, by omega, by go_num, ?_⟩
          refine St.congr h4 ?_
          rw [mdl_step hq.out hpt, chr_out (ds := ds) (q := q) (by rw [L.out]; omega)]
          try simp
        case measure => simp [intOf]; omega
    · go_wp2
      go_ret
      have hq' := hq.out
      refine ⟨_, rfl, ?_, H.out.ap.below (Below.refl _ _) (Nat.le_refl _) (fun k hk => by simp [Value.ownBlock] at hk)⟩
      rw [← mdl_end0 false ds k prec hp, ← show t = (max k 0).toNat + 1 by omega]
      exact H.out.own
set_option maxHeartbeats 800000 in
theorem mod_shiz (a : Option Addr) (k prec : Int) (w : World) (h0 : St w.heap.size w (.slice none 0 0) [] a 0 [] w (.slice none 0 0) [])
     (hk : 0 ≤ k) (hk2 : k ≤ 1048576) (hp : prec ≤ 0) (hp2 : -1048576 ≤ prec) :
    Calls Try.prog 13 #[.bool false, .slice a 0 0, .int .i64 k, .int .i64 prec] w fun e w' => ∃ v', e = .returned v' ∧ Own w' w.heap.size v' (fm false [] k prec) ∧ Below w.heap.size w w' := by
  have d1 : decide (k < 0) = false := by simp; omega
  have d2 : decide (0 < prec) = false := by simp; omega
  go_enter Try.func13, Try.ntmps13
  go_wp2
  go_loopw [9, 12] (fun o p wr => ∃ (t : Nat) (q : Int), t ≤ (max k 0).toNat + 1 ∧ Hid (q = min k 0 + t) ∧ 0 ≤ q ∧ q ≤ 4194304 ∧ p = .int .i64 (k - q) ∧ Hid (St w.heap.size w (.slice none 0 0) [] a 0 [] wr o (sg false ++ mdl [] k t))) (fun _ p _ => (intOf p + 1048577).toNat)
  case atStart => exact ⟨0, min k 0, by omega, by simp [Hid], by omega, by omega, by go_num, by simpa [Hid, sg, mdl_zero] using h0⟩
  case round =>
    obtain ⟨t, q, ht, hq, hq0, hq1, rfl, H⟩ := hrel
    have hlen : ((sg false ++ mdl [] k t).length : Nat) ≤ 8388608 := by have := mdl_length [] k t; have := sg_length false; simp; omega
    by_cases hgo : (0 : Int) ≤ k - q
    · have hpt : k - q ≠ -1 := by omega
      go_wp2_with (first | (at_builtin; refine wp_lit rfl (.tmp 54) (.tmp 55) rfl _ rfl rfl H.out (by simpa using Nat.le_trans hlen (by decide)) ?_; intro v4 w4 h4))
      go_roundw
      case rel =>
        refine ⟨t + 1, q + 1, by have := hq.out; omega, by have := hq.out; unfold Hid; omega, by omega, by omega, by go_num, ?_⟩
        refine St.congr h4 ?_
        rw [mdl_step hq.out hpt, chr_nil q]
        try simp
      case measure => simp [intOf]; omega
    · go_wp2
      go_ret
      have hq' := hq.out
      refine ⟨_, rfl, ?_, H.out.ap.below (Below.refl _ _) (Nat.le_refl _) (fun k hk => by simp [Value.ownBlock] at hk)⟩
      rw [← mdl_end0 false [] k prec hp, ← show t = (max k 0).toNat + 1 by omega]
      exact H.out.own
set_option maxHeartbeats 800000 in
theorem mod_shpd (b n : Nat) (ds : List Int) (k prec : Int) (w : World) (h0 : St w.heap.size w (.slice none 0 0) [] (some ⟨b, 0, none⟩) n ds w (.slice none 0 0) [])
    (hl2 : ds.length = n) (hn : n ≤ 1048576) (hn0 : 0 < n) (hk : 0 ≤ k) (hk2 : k ≤ 1048576) (hp : 0 < prec) (hp2 : prec ≤ 1048576) :
    Calls Try.prog 13 #[.bool false, .slice (some ⟨b, 0, none⟩) n n, .int .i64 k, .int .i64 prec] w fun e w' => ∃ v', e = .returned v' ∧ Own w' w.heap.size v' (fm false ds k prec) ∧ Below w.heap.size w w' := by
  have L : Hid (ds.length = n) := hl2
  clear hl2
  have d1 : decide (k < 0) = false := by simp; omega
  have d2 : decide (0 < prec) = true := by simp; omega
  go_enter Try.func13, Try.ntmps13
  go_wp2
  go_loopw [9, 12] (fun o p wr => ∃ (t : Nat) (q : Int), t ≤ (max k 0).toNat + 1 + prec.toNat ∧ Hid (q = min k 0 + t) ∧ 0 ≤ q ∧ q ≤ 4194304 ∧ p = .int .i64 (k - q) ∧ Hid (St w.heap.size w (.slice none 0 0) [] (some ⟨b, 0, none⟩) n ds wr o (sg false ++ mdl ds k t))) (fun _ p _ => (intOf p + 1048577).toNat)
  case atStart => exact ⟨0, min k 0, by omega, by simp [Hid], by omega, by omega, by go_num, by simpa [Hid, sg, mdl_zero] using h0⟩
  case round =>
    obtain ⟨t, q, ht, hq, hq0, hq1, rfl, H⟩ := hrel
    have hlen : ((sg false ++ mdl ds k t).length : Nat) ≤ 8388608 := by have := mdl_length ds k t; have := sg_length false; simp; omega
    by_cases hgo : -prec ≤ k - q
    · by_cases hpt : k - q = -1
      · by_cases hin : 0 ≤ q ∧ q < n
        · obtain ⟨hin1, hin2⟩ := hin
          have HP : Hid (k - q = -1) := hpt
          have hpt1 : k - q ≤ -1 := by omega
          have hpt2 : -1 ≤ k - q := by omega
          clear hpt
          go_wp2_with (first | (at_builtin; refine wp_lit rfl (.tmp 33) (.tmp 34) rfl _ rfl rfl H.out (by simpa using Nat.le_trans hlen (by decide)) ?_; intro v3 w3 h3; have hc := (h3.rd.1.at (j := (k - (k - q)).toNat) (by omega)); rw [Nat.zero_add] at hc) | (at_builtin; refine wp_lit rfl (.tmp 47) (.tmp 52) rfl _ rfl rfl h3 (by simp at hlen ⊢; omega) ?_; intro v4 w4 h4))
          go_roundw
          case rel =>
            refine ⟨t + 1, q + 1, by have := hq.out; omega, by have := hq.out; unfold Hid; omega, by omega, by omega, by go_num, ?_⟩
            refine St.congr h4 ?_
            rw [mdl_step_point hq.out HP.out, chr_in (ds := ds) (q := q) (by omega) (by rw [L.out]; omega)]
            rw [show (k - (k - q)).toNat = q.toNat by omega]
            try simp
          case measure => simp [intOf]; omega
        · have hin2 : (n : Int) ≤ q := by omega
          clear hin
          have HP : Hid (k - q = -1) := hpt
          have hpt1 : k - q ≤ -1 := by omega
          have hpt2 : -1 ≤ k - q := by omega
          clear hpt
          go_wp2_with (first | (at_builtin; refine wp_lit rfl (.tmp 33) (.tmp 34) rfl _ rfl rfl H.out (by simpa using Nat.le_trans hlen (by decide)) ?_; intro v3 w3 h3) | (at_builtin; refine wp_lit rfl (.tmp 54) (.tmp 55) rfl _ rfl rfl h3 (by simp at hlen ⊢; omega) ?_; intro v4 w4 h4))
          go_roundw
          case rel =>
            refine ⟨t + 1, q + 1, by have := hq.out; omega, by have := hq.out; unfold Hid; omega, by omega, by omega, by go_num, ?_⟩
            refine St.congr h4 ?_
            rw [mdl_step_point hq.out HP.out, chr_out (ds := ds) (q := q) (by rw [L.out]; omega)]
            try simp
          case measure => simp [intOf]; omega
      · by_cases hin : 0 ≤ q ∧ q < n
        · obtain ⟨hin1, hin2⟩ := hin
          have hc := (H.out.rd.1.at (j := (k - (k - q)).toNat) (by omega))
          rw [Nat.zero_add] at hc
          go_wp2_with (first | (at_builtin; refine wp_lit rfl (.tmp 47) (.tmp 52) rfl _ rfl rfl H.out (by simpa using Nat.le_trans hlen (by decide)) ?_; intro v4 w4 h4))
          go_roundw
          case rel =>
            refine ⟨t + 1, q + 1, by have := hq.out; omega, by have := hq.out; unfold Hid; omega, by omega, by omega, by go_num, ?_⟩
            refine St.congr h4 ?_
            rw [mdl_step hq.out hpt, chr_in (ds := ds) (q := q) (by omega) (by rw [L.out]; omega)]
            rw [show (k - (k - q)).toNat = q.toNat by omega]
            try simp
          case measure => simp [intOf]; omega
        · have hin2 : (n : Int) ≤ q := by omega
          clear hin
          go_wp2_with (first | (at_builtin; refine wp_lit rfl (.tmp 54) (.tmp 55) rfl _ rfl rfl H.out (by simpa using Nat.le_trans hlen (by decide)) ?_; intro v4 w4 h4))
          go_roundw
          case rel =>
            refine ⟨t + 1, q + 1, by have := hq.out; omega, by have := hq.out; unfold Hid; omega, by omega, by omega, by go_num, ?_⟩
            refine St.congr h4 ?_
            rw [mdl_step hq.out hpt, chr_out (ds := ds) (q := q) (by rw [L.out]; omega)]
            try simp
          case measure => simp [intOf]; omega
    · go_wp2
      go_ret
      have hq' := hq.out
      refine ⟨_, rfl, ?_, H.out.ap.below (Below.refl _ _) (Nat.le_refl _) (fun k hk => by simp [Value.ownBlock] at hk)⟩
      rw [← mdl_end1 false ds k prec hp, ← show t = (max k 0).toNat + 1 + prec.toNat by omega]
      exact H.out.own
set_option maxHeartbeats 800000 in
theorem mod_shpz (a : Option Addr) (k prec : Int) (w : World) (h0 : St w.heap.size w (.slice none 0 0) [] a 0 [] w (.slice none 0 0) [])
     (hk : 0 ≤ k) (hk2 : k ≤ 1048576) (hp : 0 < prec) (hp2 : prec ≤ 1048576) :
    Calls Try.prog 13 #[.bool false, .slice a 0 0, .int .i64 k, .int .i64 prec] w fun e w' => ∃ v', e = .returned v' ∧ Own w' w.heap.size v' (fm false [] k prec) ∧ Below w.heap.size w w' := by
  have d1 : decide (k < 0) = false := by simp; omega
  have d2 : decide (0 < prec) = true := by simp; omega
  go_enter Try.func13, Try.ntmps13
  go_wp2
  go_loopw [9, 12] (fun o p wr => ∃ (t : Nat) (q : Int), t ≤ (max k 0).toNat + 1 + prec.toNat ∧ Hid (q = min k 0 + t) ∧ 0 ≤ q ∧ q ≤ 4194304 ∧ p = .int .i64 (k - q) ∧ Hid (St w.heap.size w (.slice none 0 0) [] a 0 [] wr o (sg false ++ mdl [] k t))) (fun _ p _ => (intOf p + 1048577).toNat)
  case atStart => exact ⟨0, min k 0, by omega, by simp [Hid], by omega, by omega, by go_num, by simpa [Hid, sg, mdl_zero] using h0⟩
  case round =>
    obtain ⟨t, q, ht, hq, hq0, hq1, rfl, H⟩ := hrel
    have hlen : ((sg false ++ mdl [] k t).length : Nat) ≤ 8388608 := by have := mdl_length [] k t; have := sg_length false; simp; omega
    by_cases hgo : -prec ≤ k - q
    · by_cases hpt : k - q = -1
      · have HP : Hid (k - q = -1) := hpt
        have hpt1 : k - q ≤ -1 := by omega
        have hpt2 : -1 ≤ k - q := by omega
        clear hpt
        go_wp2_with (first | (at_builtin; refine wp_lit rfl (.tmp 33) (.tmp 34) rfl _ rfl rfl H.out (by simpa using Nat.le_trans hlen (by decide)) ?_; intro v3 w3 h3) | (at_builtin; refine wp_lit rfl (.tmp 54) (.tmp 55) rfl _ rfl rfl h3 (by simp at hlen ⊢; omega) ?_; intro v4 w4 h4))
        go_roundw
        case rel =>
          refine ⟨t + 1, q + 1, by have := hq.out; omega, by have := hq.out; unfold Hid; omega, by omega, by omega, by go_num, ?_⟩
          refine St.congr h4 ?_
          rw [mdl_step_point hq.out HP.out, chr_nil q]
          try simp
        case measure => simp [intOf]; omega
      · go_wp2_with (first | (at_builtin; refine wp_lit rfl (.tmp 54) (.tmp 55) rfl _ rfl rfl H.out (by simpa using Nat.le_trans hlen (by decide)) ?_; intro v4 w4 h4))
        go_roundw
        case rel =>
          refine ⟨t + 1, q + 1, by have := hq.out; omega, by have := hq.out; unfold Hid; omega, by omega, by omega, by go_num, ?_⟩
          refine St.congr h4 ?_
          rw [mdl_step hq.out hpt, chr_nil q]
          try simp
        case measure => simp [intOf]; omega
    · go_wp2
      go_ret
      have hq' := hq.out
      refine ⟨_, rfl, ?_, H.out.ap.below (Below.refl _ _) (Nat.le_refl _) (fun k hk => by simp [Value.ownBlock] at hk)⟩
      rw [← mdl_end1 false [] k prec hp, ← show t = (max k 0).toNat + 1 + prec.toNat by omega]
      exact H.out.own
set_option maxHeartbeats 800000 in
theorem mod_slid (b n : Nat) (ds : List Int) (k prec : Int) (w : World) (h0 : St w.heap.size w (.slice none 0 0) [] (some ⟨b, 0, none⟩) n ds w (.slice none 0 0) [])
    (hl2 : ds.length = n) (hn : n ≤ 1048576) (hn0 : 0 < n) (hk : k < 0) (hk2 : -1048576 ≤ k) (hp : prec ≤ 0) (hp2 : -1048576 ≤ prec) :
    Calls Try.prog 13 #[.bool false, .slice (some ⟨b, 0, none⟩) n n, .int .i64 k, .int .i64 prec] w fun e w' => ∃ v', e = .returned v' ∧ Own w' w.heap.size v' (fm false ds k prec) ∧ Below w.heap.size w w' := by
  have L : Hid (ds.length = n) := hl2
  clear hl2
  have d1 : decide (k < 0) = true := by simp; omega
  have d2 : decide (0 < prec) = false := by simp; omega
  go_enter Try.func13, Try.ntmps13
  go_wp2
  go_loopw [9, 12] (fun o p wr => ∃ (t : Nat) (q : Int), t ≤ (max k 0).toNat + 1 ∧ Hid (q = min k 0 + t) ∧ -4194304 ≤ q ∧ q ≤ 4194304 ∧ p = .int .i64 (k - q) ∧ Hid (St w.heap.size w (.slice none 0 0) [] (some ⟨b, 0, none⟩) n ds wr o (sg false ++ mdl ds k t))) (fun _ p _ => (intOf p + 1048577).toNat)
  case atStart => exact ⟨0, min k 0, by omega, by simp [Hid], by omega, by omega, by go_num, by simpa [Hid, sg, mdl_zero] using h0⟩
  case round =>
    obtain ⟨t, q, ht, hq, hq0, hq1, rfl, H⟩ := hrel
    have hlen : ((sg false ++ mdl ds k t).length : Nat) ≤ 8388608 := by have := mdl_length ds k t; have := sg_length false; simp; omega
    by_cases hgo : (0 : Int) ≤ k - q
    · have hpt : k - q ≠ -1 := by omega
      have hin1 : q < 0 := by omega
      go_wp2_with (first | (at_builtin; refine wp_lit rfl (.tmp 54) (.tmp 55) rfl _ rfl rfl H.out (by simpa using Nat.le_trans hlen (by decide)) ?_; intro v4 w4 h4))
      go_roundw
      case rel =>
        refine ⟨t + 1, q + 1, by have := hq.out; omega, by have := hq.out; unfold Hid; omega, by omega, by omega, by go_num, ?_⟩
        refine St.congr h4 ?_
        rw [mdl_step hq.out hpt, chr_out (ds := ds) (q := q) (by rw [L.out]; omega)]
        try simp
      case measure => simp [intOf]; omega
    · go_wp2
      go_ret
      have hq' := hq.out
      refine ⟨_, rfl, ?_, H.out.ap.below (Below.refl _ _) (Nat.le_refl _) (fun k hk => by simp [Value.ownBlock] at hk)⟩
      rw [← mdl_end0 false ds k prec hp, ← show t = (max k 0).toNat + 1 by omega]
      exact H.out.own
set_option maxHeartbeats 800000 in
theorem mod_sliz (a : Option Addr) (k prec : Int) (w : World) (h0 : St w.heap.size w (.slice none 0 0) [] a 0 [] w (.slice none 0 0) [])
     (hk : k < 0) (hk2 : -1048576 ≤ k) (hp : prec ≤ 0) (hp2 : -1048576 ≤ prec) :
    Calls Try.prog 13 #[.bool false, .slice a 0 0, .int .i64 k, .int .i64 prec] w fun e w' => ∃ v', e = .returned v' ∧ Own w' w.heap.size v' (fm false [] k prec) ∧ Below w.heap.size w w' := by
  have d1 : decide (k < 0) = true := by simp; omega
  have d2 : decide (0 < prec) = false := by simp; omega
  go_enter Try.func13, Try.ntmps13
  go_wp2
  go_loopw [9, 12] (fun o p wr => ∃ (t : Nat) (q : Int), t ≤ (max k 0).toNat + 1 ∧ Hid (q = min k 0 + t) ∧ -4194304 ≤ q ∧ q ≤ 4194304 ∧ p = .int .i64 (k - q) ∧ Hid (St w.heap.size w (.slice none 0 0) [] a 0 [] wr o (sg false ++ mdl [] k t))) (fun _ p _ => (intOf p + 1048577).toNat)
  case atStart => exact ⟨0, min k 0, by omega, by simp [Hid], by omega, by omega, by go_num, by simpa [Hid, sg, mdl_zero] using h0⟩
  case round =>
    obtain ⟨t, q, ht, hq, hq0, hq1, rfl, H⟩ := hrel
    have hlen : ((sg false ++ mdl [] k t).length : Nat) ≤ 8388608 := by have := mdl_length [] k t; have := sg_length false; simp; omega
    by_cases hgo : (0 : Int) ≤ k - q
    · have hpt : k - q ≠ -1 := by omega
      have hin1 : q < 0 := by omega
      go_wp2_with (first | (at_builtin; refine wp_lit rfl (.tmp 54) (.tmp 55) rfl _ rfl rfl H.out (by simpa using Nat.le_trans hlen (by decide)) ?_; intro v4 w4 h4))
      go_roundw
      case rel =>
        refine ⟨t + 1, q + 1, by have := hq.out; omega, by have := hq.out; unfold Hid; omega, by omega, by omega, by go_num, ?_⟩
        refine St.congr h4 ?_
        rw [mdl_step hq.out hpt, chr_nil q]
        try simp
      case measure => simp [intOf]; omega
    · go_wp2
      go_ret
      have hq' := hq.out
      refine ⟨_, rfl, ?_, H.out.ap.below (Below.refl _ _) (Nat.le_refl _) (fun k hk => by simp [Value.ownBlock] at hk)⟩
      rw [← mdl_end0 false [] k prec hp, ← show t = (max k 0).toNat + 1 by omega]
      exact H.out.own
set_option maxHeartbeats 800000 in
theorem mod_slpd (b n : Nat) (ds : List Int) (k prec : Int) (w : World) (h0 : St w.heap.size w (.slice none 0 0) [] (some ⟨b, 0, none⟩) n ds w (.slice none 0 0) [])
    (hl2 : ds.length = n) (hn : n ≤ 1048576) (hn0 : 0 < n) (hk : k < 0) (hk2 : -1048576 ≤ k) (hp : 0 < prec) (hp2 : prec ≤ 1048576) :
    Calls Try.prog 13 #[.bool false, .slice (some ⟨b, 0, none⟩) n n, .int .i64 k, .int .i64 prec] w fun e w' => ∃ v', e = .returned v' ∧ Own w' w.heap.size v' (fm false ds k prec) ∧ Below w.heap.size w w' := by
  have L : Hid (ds.length = n) := hl2
  clear hl2
  have d1 : decide (k < 0) = true := by simp; omega
  have d2 : decide (0 < prec) = true := by simp; omega
  go_enter Try.func13, Try.ntmps13
  go_wp2
  go_loopw [9, 12] (fun o p wr => ∃ (t : Nat) (q : Int), t ≤ (max k 0).toNat + 1 + prec.toNat ∧ Hid (q = min k 0 + t) ∧ -4194304 ≤ q ∧ q ≤ 4194304 ∧ p = .int .i64 (k - q) ∧ Hid (St w.heap.size w (.slice none 0 0) [] (some ⟨b, 0, none⟩) n ds wr o (sg false ++ mdl ds k t))) (fun _ p _ => (intOf p + 1048577).toNat)
  case atStart => exact ⟨0, min k 0, by omega, by simp [Hid], by omega, by omega, by go_num, by simpa [Hid, sg, mdl_zero] using h0⟩
  case round =>
    obtain ⟨t, q, ht, hq, hq0, hq1, rfl, H⟩ := hrel
    have hlen : ((sg false ++ mdl ds k t).length : Nat) ≤ 8388608 := by have := mdl_length ds k t; have := sg_length false; simp; omega
    by_cases hgo : -prec ≤ k - q
    · by_cases hpt : k - q = -1
      · by_cases hin : 0 ≤ q ∧ q < n
        · obtain ⟨hin1, hin2⟩ := hin
          have HP : Hid (k - q = -1) := hpt
          have hpt1 : k - q ≤ -1 := by omega
          have hpt2 : -1 ≤ k - q := by omega
          clear hpt
          go_wp2_with (first | (at_builtin; refine wp_lit rfl (.tmp 33) (.tmp 34) rfl _ rfl rfl H.out (by simpa using Nat.le_trans hlen (by decide)) ?_; intro v3 w3 h3; have hc := (h3.rd.1.at (j := (k - (k - q)).toNat) (by omega)); rw [Nat.zero_add] at hc) | (at_builtin; refine wp_lit rfl (.tmp 47) (.tmp 52) rfl _ rfl rfl h3 (by simp at hlen ⊢; omega) ?_; intro v4 w4 h4))
          go_roundw
          case rel =>
            refine ⟨t + 1, q + 1, by have := hq.out; omega, by have := hq.out; unfold Hid; omega, by omega, by omega, by go_num, ?_⟩
            refine St.congr h4 ?_
            rw [mdl_step_point hq.out HP.out, chr_in (ds := ds) (q := q) (by omega) (by rw [L.out]; omega)]
            rw [show (k - (k - q)).toNat = q.toNat by omega]
            try simp
          case measure => simp [intOf]; omega
        · have hin1 : q < 0 := by omega
          clear hin
          have HP : Hid (k - q = -1) := hpt
          have hpt1 : k - q ≤ -1 := by omega
          have hpt2 : -1 ≤ k - q := by omega
          clear hpt
          go_wp2_with (first | (at_builtin; refine wp_lit rfl (.tmp 33) (.tmp 34) rfl _ rfl rfl H.out (by simpa using Nat.le_trans hlen (by decide)) ?_; intro v3 w3 h3) | (at_builtin; refine wp_lit rfl (.tmp 54) (.tmp 55) rfl _ rfl rfl h3 (by simp at hlen ⊢; omega) ?_; intro v4 w4 h4))
          go_roundw
          case rel =>
            refine ⟨t + 1, q + 1, by have := hq.out; omega, by have := hq.out; unfold Hid; omega, by omega, by omega, by go_num, ?_⟩
            refine St.congr h4 ?_
            rw [mdl_step_point hq.out HP.out, chr_out (ds := ds) (q := q) (by rw [L.out]; omega)]
            try simp
          case measure => simp [intOf]; omega
      · by_cases hin : 0 ≤ q ∧ q < n
        · obtain ⟨hin1, hin2⟩ := hin
          have hc := (H.out.rd.1.at (j := (k - (k - q)).toNat) (by omega))
          rw [Nat.zero_add] at hc
          go_wp2_with (first | (at_builtin; refine wp_lit rfl (.tmp 47) (.tmp 52) rfl _ rfl rfl H.out (by simpa using Nat.le_trans hlen (by decide)) ?_; intro v4 w4 h4))
          go_roundw
          case rel =>
            refine ⟨t + 1, q + 1, by have := hq.out; omega, by have := hq.out; unfold Hid; omega, by omega, by omega, by go_num, ?_⟩
            refine St.congr h4 ?_
            rw [mdl_step hq.out hpt, chr_in (ds := ds) (q := q) (by omega) (by rw [L.out]; omega)]
            rw [show (k - (k - q)).toNat = q.toNat by omega]
            try simp
          case measure => simp [intOf]; omega
        · rcases (show q < 0 ∨ (0 ≤ q ∧ (n : Int) ≤ q) by omega) with hin1 | ⟨hin1, hin2⟩
          · clear hin
            go_wp2_with (first | (at_builtin; refine wp_lit rfl (.tmp 54) (.tmp 55) rfl _ rfl rfl H.out (by simpa using Nat.le_trans hlen (by decide)) ?_; intro v4 w4 h4))
            go_roundw
            case rel =>
              refine ⟨t + 1, q + 1, by have := hq.out; omega, by have := hq.out; unfold Hid; omega, by omega, by omega, by go_num, ?_⟩
              refine St.congr h4 ?_
              rw [mdl_step hq.out hpt, chr_out (ds := ds) (q := q) (by rw [L.out]; omega)]
              try simp
            case measure => simp [intOf]; omega
          · clear hin
            go_wp2_with (first | (at_builtin; refine wp_lit rfl (.tmp 54) (.tmp 55) rfl _ rfl rfl H.out (by simpa using Nat.le_trans hlen (by decide)) ?_; intro v4 w4 h4))
            go_roundw
            case rel =>
              refine ⟨t + 1, q + 1, by have := hq.out; omega, by have := hq.out; unfold Hid; omega, by omega, by omega, by go_num, ?_⟩
              refine St.congr h4 ?_
              rw [mdl_step hq.out hpt, chr_out (ds := ds) (q := q) (by rw [L.out]; omega)]
              try simp
            case measure => simp [intOf]; omega
    · go_wp2
      go_ret
      have hq' := hq.out
      refine ⟨_, rfl, ?_, H.out.ap.below (Below.refl _ _) (Nat.le_refl _) (fun k hk => by simp [Value.ownBlock] at hk)⟩
      rw [← mdl_end1 false ds k prec hp, ← show t = (max k 0).toNat + 1 + prec.toNat by omega]
      exact H.out.own
set_option maxHeartbeats 800000 in
theorem mod_slpz (a : Option Addr) (k prec : Int) (w : World) (h0 : St w.heap.size w (.slice none 0 0) [] a 0 [] w (.slice none 0 0) [])
     (hk : k < 0) (hk2 : -1048576 ≤ k) (hp : 0 < prec) (hp2 : prec ≤ 1048576) :
    Calls Try.prog 13 #[.bool false, .slice a 0 0, .int .i64 k, .int .i64 prec] w fun e w' => ∃ v', e = .returned v' ∧ Own w' w.heap.size v' (fm false [] k prec) ∧ Below w.heap.size w w' := by
  have d1 : decide (k < 0) = true := by simp; omega
  have d2 : decide (0 < prec) = true := by simp; omega
  go_enter Try.func13, Try.ntmps13
  go_wp2
  go_loopw [9, 12] (fun o p wr => ∃ (t : Nat) (q : Int), t ≤ (max k 0).toNat + 1 + prec.toNat ∧ Hid (q = min k 0 + t) ∧ -4194304 ≤ q ∧ q ≤ 4194304 ∧ p = .int .i64 (k - q) ∧ Hid (St w.heap.size w (.slice none 0 0) [] a 0 [] wr o (sg false ++ mdl [] k t))) (fun _ p _ => (intOf p + 1048577).toNat)
  case atStart => exact ⟨0, min k 0, by omega, by simp [Hid], by omega, by omega, by go_num, by simpa [Hid, sg, mdl_zero] using h0⟩
  case round =>
    obtain ⟨t, q, ht, hq, hq0, hq1, rfl, H⟩ := hrel
    have hlen : ((sg false ++ mdl [] k t).length : Nat) ≤ 8388608 := by have := mdl_length [] k t; have := sg_length false; simp; omega
    by_cases hgo : -prec ≤ k - q
    · by_cases hpt : k - q = -1
      · by_cases hin1 : q < 0
        · have HP : Hid (k - q = -1) := hpt
          have hpt1 : k - q ≤ -1 := by omega
          have hpt2 : -1 ≤ k - q := by omega
          clear hpt
          go_wp2_with (first | (at_builtin; refine wp_lit rfl (.tmp 33) (.tmp 34) rfl _ rfl rfl H.out (by simpa using Nat.le_trans hlen (by decide)) ?_; intro v3 w3 h3) | (at_builtin; refine wp_lit rfl (.tmp 54) (.tmp 55) rfl _ rfl rfl h3 (by simp at hlen ⊢; omega) ?_; intro v4 w4 h4))
          go_roundw
          case rel =>
            refine ⟨t + 1, q + 1, by have := hq.out; omega, by have := hq.out; unfold Hid; omega, by omega, by omega, by go_num, ?_⟩
            refine St.congr h4 ?_
            rw [mdl_step_point hq.out HP.out, chr_nil q]
            try simp
          case measure => simp [intOf]; omega
        · have HP : Hid (k - q = -1) := hpt
          have hpt1 : k - q ≤ -1 := by omega
          have hpt2 : -1 ≤ k - q := by omega
          clear hpt
          go_wp2_with (first | (at_builtin; refine wp_lit rfl (.tmp 33) (.tmp 34) rfl _ rfl rfl H.out (by simpa using Nat.le_trans hlen (by decide)) ?_; intro v3 w3 h3) | (at_builtin; refine wp_lit rfl (.tmp 54) (.tmp 55) rfl _ rfl rfl h3 (by simp at hlen ⊢; omega) ?_; intro v4 w4 h4))
          go_roundw
          case rel =>
            refine ⟨t + 1, q + 1, by have := hq.out; omega, by have := hq.out; unfold Hid; omega, by omega, by omega, by go_num, ?_⟩
            refine St.congr h4 ?_
            rw [mdl_step_point hq.out HP.out, chr_nil q]
            try simp
          case measure => simp [intOf]; omega
      · by_cases hin1 : q < 0
        · go_wp2_with (first | (at_builtin; refine wp_lit rfl (.tmp 54) (.tmp 55) rfl _ rfl rfl H.out (by simpa using Nat.le_trans hlen (by decide)) ?_; intro v4 w4 h4))
          go_roundw
          case rel =>
            refine ⟨t + 1, q + 1, by have := hq.out; omega, by have := hq.out; unfold Hid; omega, by omega, by omega, by go_num, ?_⟩
            refine St.congr h4 ?_
            rw [mdl_step hq.out hpt, chr_nil q]
            try simp
          case measure => simp [intOf]; omega
        · go_wp2_with (first | (at_builtin; refine wp_lit rfl (.tmp 54) (.tmp 55) rfl _ rfl rfl H.out (by simpa using Nat.le_trans hlen (by decide)) ?_; intro v4 w4 h4))
          go_roundw
          case rel =>
            refine ⟨t + 1, q + 1, by have := hq.out; omega, by have := hq.out; unfold Hid; omega, by omega, by omega, by go_num, ?_⟩
            refine St.congr h4 ?_
            rw [mdl_step hq.out hpt, chr_nil q]
            try simp
          case measure => simp [intOf]; omega
    · go_wp2
      go_ret
      have hq' := hq.out
      refine ⟨_, rfl, ?_, H.out.ap.below (Below.refl _ _) (Nat.le_refl _) (fun k hk => by simp [Value.ownBlock] at hk)⟩
      rw [← mdl_end1 false [] k prec hp, ← show t = (max k 0).toNat + 1 + prec.toNat by omega]
      exact H.out.own
set_option maxHeartbeats 800000 in
theorem mod_nhid (b n : Nat) (ds : List Int) (k prec : Int) (w : World) (h0 : St w.heap.size w (.slice none 0 0) [] (some ⟨b, 0, none⟩) n ds w (.slice none 0 0) [])
    (hl2 : ds.length = n) (hn : n ≤ 1048576) (hn0 : 0 < n) (hk : 0 ≤ k) (hk2 : k ≤ 1048576) (hp : prec ≤ 0) (hp2 : -1048576 ≤ prec) :
    Calls Try.prog 13 #[.bool true, .slice (some ⟨b, 0, none⟩) n n, .int .i64 k, .int .i64 prec] w fun e w' => ∃ v', e = .returned v' ∧ Own w' w.heap.size v' (fm true ds k prec) ∧ Below w.heap.size w w' := by
  have L : Hid (ds.length = n) := hl2
  clear hl2
  have d1 : decide (k < 0) = false := by simp; omega
  have d2 : decide (0 < prec) = false := by simp; omega
  go_enter Try.func13, Try.ntmps13
  go_wp2_with (at_builtin; refine wp_lit rfl (.tmp 15) (.tmp 16) rfl _ rfl rfl h0 (by simp) ?_; intro v1 w1 h1)
  go_loopw [9, 12] (fun o p wr => ∃ (t : Nat) (q : Int), t ≤ (max k 0).toNat + 1 ∧ Hid (q = min k 0 + t) ∧ 0 ≤ q ∧ q ≤ 4194304 ∧ p = .int .i64 (k - q) ∧ Hid (St w.heap.size w (.slice none 0 0) [] (some ⟨b, 0, none⟩) n ds wr o (sg true ++ mdl ds k t))) (fun _ p _ => (intOf p + 1048577).toNat)
  case atStart => exact ⟨0, min k 0, by omega, by simp [Hid], by omega, by omega, by go_num, by simpa [Hid, sg, mdl_zero] using h1⟩
  case round =>
    obtain ⟨t, q, ht, hq, hq0, hq1, rfl, H⟩ := hrel
    have hlen : ((sg true ++ mdl ds k t).length : Nat) ≤ 8388608 := by have := mdl_length ds k t; have := sg_length true; simp; omega
    by_cases hgo : (0 : Int) ≤ k - q
    · have hpt : k - q ≠ -1 := by omega
      by_cases hin : 0 ≤ q ∧ q < n
      · obtain ⟨hin1, hin2⟩ := hin
        have hc := (H.out.rd.1.at (j := (k - (k - q)).toNat) (by omega))
        rw [Nat.zero_add] at hc
        go_wp2_with (first | (at_builtin; refine wp_lit rfl (.tmp 47) (.tmp 52) rfl _ rfl rfl H.out (by simpa using Nat.le_trans hlen (by decide)) ?_; intro v4 w4 h4))
        go_roundw
        case rel =>
          refine ⟨t + 1, q + 1, by have := hq.out; omega, by have := hq.out; unfold Hid; omega, by omega, by omega, by go_num, ?_⟩
          refine St.congr h4 ?_
          rw [mdl_step hq.out hpt, chr_in (ds := ds) (q := q) (by omega) (by rw [L.out]; omega)]
          rw [show (k - (k - q)).toNat = q.toNat by omega]
          try simp
        case measure => simp [intOf]; omega
      · have hin2 : (n : Int) ≤ q := by omega
        clear hin
        go_wp2_with (first | (at_builtin; refine wp_lit rfl (.tmp 54) (.tmp 55) rfl _ rfl rfl H.out (by simpa using Nat.le_trans hlen (by decide)) ?_; intro v4 w4 h4))
        go_roundw
        case rel =>
          refine ⟨t + 1, q + 1, by have := hq.out; omega, by have := hq.out; unfold Hid; omega, by omega, by omega, by go_num, ?_⟩
          refine St.congr h4 ?_
          rw [mdl_step hq.out hpt, chr_out (ds := ds) (q := q) (by rw [L.out]; omega)]
          try simp
        case measure => simp [intOf]; omega
    · go_wp2
      go_ret
      have hq' := hq.out
      refine ⟨_, rfl, ?_, H.out.ap.below (Below.refl _ _) (Nat.le_refl _) (fun k hk => by simp [Value.ownBlock] at hk)⟩
      rw [← mdl_end0 true ds k prec hp, ← show t = (max k 0).toNat + 1 by omega]
      exact H.out.own
set_option maxHeartbeats 800000 in
theorem mod_nhiz (a : Option Addr) (k prec : Int) (w : World) (h0 : St w.heap.size w (.slice none 0 0) [] a 0 [] w (.slice none 0 0) [])
     (hk : 0 ≤ k) (hk2 : k ≤ 1048576) (hp : prec ≤ 0) (hp2 : -1048576 ≤ prec) :
    Calls Try.prog 13 #[.bool true, .slice a 0 0, .int .i64 k, .int .i64 prec] w fun e w' => ∃ v', e = .returned v' ∧ Own w' w.heap.size v' (fm true [] k prec) ∧ Below w.heap.size w w' := by
  have d1 : decide (k < 0) = false := by simp; omega
  have d2 : decide (0 < prec) = false := by simp; omega
  go_enter Try.func13, Try.ntmps13
  go_wp2_with (at_builtin; refine wp_lit rfl (.tmp 15) (.tmp 16) rfl _ rfl rfl h0 (by simp) ?_; intro v1 w1 h1)
  go_loopw [9, 12] (fun o p wr => ∃ (t : Nat) (q : Int), t ≤ (max k 0).toNat + 1 ∧ Hid (q = min k 0 + t) ∧ 0 ≤ q ∧ q ≤ 4194304 ∧ p = .int .i64 (k - q) ∧ Hid (St w.heap.size w (.slice none 0 0) [] a 0 [] wr o (sg true ++ mdl [] k t))) (fun _ p _ => (intOf p + 1048577).toNat)
  case atStart => exact ⟨0, min k 0, by omega, by simp [Hid], by omega, by omega, by go_num, by simpa [Hid, sg, mdl_zero] using h1⟩
  case round =>
    obtain ⟨t, q, ht, hq, hq0, hq1, rfl, H⟩ := hrel
    have hlen : ((sg true ++ mdl [] k t).length : Nat) ≤ 8388608 := by have := mdl_length [] k t; have := sg_length true; simp; omega
    by_cases hgo : (0 : Int) ≤ k - q
    · have hpt : k - q ≠ -1 := by omega
      go_wp2_with (first | (at_builtin; refine wp_lit rfl (.tmp 54) (.tmp 55) rfl _ rfl rfl H.out (by simpa using Nat.le_trans hlen (by decide)) ?_; intro v4 w4 h4))
      go_roundw
      case rel =>
        refine ⟨t + 1, q + 1, by have := hq.out; omega, by have := hq.out; unfold Hid; omega, by omega, by omega, by go_num, ?_⟩
        refine St.congr h4 ?_
        rw [mdl_step hq.out hpt, chr_nil q]
        try simp
      case measure => simp [intOf]; omega
    · go_wp2
      go_ret
      have hq' := hq.out
      refine ⟨_, rfl, ?_, H.out.ap.below (Below.refl _ _) (Nat.le_refl _) (fun k hk => by simp [Value.ownBlock] at hk)⟩
      rw [← mdl_end0 true [] k prec hp, ← show t = (max k 0).toNat + 1 by omega]
      exact H.out.own
set_option maxHeartbeats 800000 in
theorem mod_nhpd (b n : Nat) (ds : List Int) (k prec : Int) (w : World) (h0 : St w.heap.size w (.slice none 0 0) [] (some ⟨b, 0, none⟩) n ds w (.slice none 0 0) [])
    (hl2 : ds.length = n) (hn : n ≤ 1048576) (hn0 : 0 < n) (hk : 0 ≤ k) (hk2 : k ≤ 1048576) (hp : 0 < prec) (hp2 : prec ≤ 1048576) :
    Calls Try.prog 13 #[.bool true, .slice (some ⟨b, 0, none⟩) n n, .int .i64 k, .int .i64 prec] w fun e w' => ∃ v', e = .returned v' ∧ Own w' w.heap.size v' (fm true ds k prec) ∧ Below w.heap.size w w' := by
  have L : Hid (ds.length = n) := hl2
  clear hl2
  have d1 : decide (k < 0) = false := by simp; omega
  have d2 : decide (0 < prec) = true := by simp; omega
  go_enter Try.func13, Try.ntmps13
  go_wp2_with (at_builtin; refine wp_lit rfl (.tmp 15) (.tmp 16) rfl _ rfl rfl h0 (by simp) ?_; intro v1 w1 h1)
  go_loopw [9, 12] (fun o p wr => ∃ (t : Nat) (q : Int), t ≤ (max k 0).toNat + 1 + prec.toNat ∧ Hid (q = min k 0 + t) ∧ 0 ≤ q ∧ q ≤ 4194304 ∧ p = .int .i64 (k - q) ∧ Hid (St w.heap.size w (.slice none 0 0) [] (some ⟨b, 0, none⟩) n ds wr o (sg true ++ mdl ds k t))) (fun _ p _ => (intOf p + 1048577).toNat)
  case atStart => exact ⟨0, min k 0, by omega, by simp [Hid], by omega, by omega, by go_num, by simpa [Hid, sg, mdl_zero] using h1⟩
  case round =>
    obtain ⟨t, q, ht, hq, hq0, hq1, rfl, H⟩ := hrel
    have hlen : ((sg true ++ mdl ds k t).length : Nat) ≤ 8388608 := by have := mdl_length ds k t; have := sg_length true; simp; omega
    by_cases hgo : -prec ≤ k - q
    · by_cases hpt : k - q = -1
      · by_cases hin : 0 ≤ q ∧ q < n
        · obtain ⟨hin1, hin2⟩ := hin
          have HP : Hid (k - q = -1) := hpt
          have hpt1 : k - q ≤ -1 := by omega
          have hpt2 : -1 ≤ k - q := by omega
          clear hpt
          go_wp2_with (first | (at_builtin; refine wp_lit rfl (.tmp 33) (.tmp 34) rfl _ rfl rfl H.out (by simpa using Nat.le_trans hlen (by decide)) ?_; intro v3 w3 h3; have hc := (h3.rd.1.at (j := (k - (k - q)).toNat) (by omega)); rw [Nat.zero_add] at hc) | (at_builtin; refine wp_lit rfl (.tmp 47) (.tmp 52) rfl _ rfl rfl h3 (by simp at hlen ⊢; omega) ?_; intro v4 w4 h4))
          go_roundw
          case rel =>
            refine ⟨t + 1, q + 1, by have := hq.out; omega, by have := hq.out; unfold Hid; omega, by omega, by omega, by go_num, ?_⟩
            refine St.congr h4 ?_
            rw [mdl_step_point hq.out HP.out, chr_in (ds := ds) (q := q) (by omega) (by rw [L.out]; omega)]
            rw [show (k - (k - q)).toNat = q.toNat by omega]
            try simp
          case measure => simp [intOf]; omega
        · have hin2 : (n : Int) ≤ q := by omega
          clear hin
          have HP : Hid (k - q = -1) := hpt
          have hpt1 : k - q ≤ -1 := by omega
          have hpt2 : -1 ≤ k - q := by omega
          clear hpt
          go_wp2_with (first | (at_builtin; refine wp_lit rfl (.tmp 33) (.tmp 34) rfl _ rfl rfl H.out (by simpa using Nat.le_trans hlen (by decide)) ?_; intro v3 w3 h3) | (at_builtin; refine wp_lit rfl (.tmp 54) (.tmp 55) rfl _ rfl rfl h3 (by simp at hlen ⊢; omega) ?_; intro v4 w4 h4))
          go_roundw
          case rel =>
            refine ⟨t + 1, q + 1, by have := hq.out; omega, by have := hq.out; unfold Hid; omega, by omega, by omega, by go_num, ?_⟩
            refine St.congr h4 ?_
            rw [mdl_step_point hq.out HP.out, chr_out (ds := ds) (q := q) (by rw [L.out]; omega)]
            try simp
          case measure => simp [intOf]; omega
      · by_cases hin : 0 ≤ q ∧ q < n
        · obtain ⟨hin1, hin2⟩ := hin
          have hc := (H.out.rd.1.at (j := (k - (k - q)).toNat) (by omega))
          rw [Nat.zero_add] at hc
          go_wp2_with (first | (at_builtin; refine wp_lit rfl (.tmp 47) (.tmp 52) rfl _ rfl rfl H.out (by simpa using Nat.le_trans hlen (by decide)) ?_; intro v4 w4 h4))
          go_roundw
          case rel =>
            refine ⟨t + 1, q + 1, by have := hq.out; omega, by have := hq.out; unfold Hid; omega, by omega, by omega, by go_num, ?_⟩
            refine St.congr h4 ?_
            rw [mdl_step hq.out hpt, chr_in (ds := ds) (q := q) (by omega) (by rw [L.out]; omega)]
            rw [show (k - (k - q)).toNat = q.toNat by omega]
            try simp
          case measure => simp [intOf]; omega
        · have hin2 : (n : Int) ≤ q := by omega
          clear hin
          go_wp2_with (first | (at_builtin; refine wp_lit rfl (.tmp 54) (.tmp 55) rfl _ rfl rfl H.out (by simpa using Nat.le_trans hlen (by decide)) ?_; intro v4 w4 h4))
          go_roundw
          case rel =>
            refine ⟨t + 1, q + 1, by have := hq.out; omega, by have := hq.out; unfold Hid; omega, by omega, by omega, by go_num, ?_⟩
            refine St.congr h4 ?_
            rw [mdl_step hq.out hpt, chr_out (ds := ds) (q := q) (by rw [L.out]; omega)]
            try simp
          case measure => simp [intOf]; omega
    · go_wp2
      go_ret
      have hq' := hq.out
      refine ⟨_, rfl, ?_, H.out.ap.below (Below.refl _ _) (Nat.le_refl _) (fun k hk => by simp [Value.ownBlock] at hk)⟩
      rw [← mdl_end1 true ds k prec hp, ← show t = (max k 0).toNat + 1 + prec.toNat by omega]
      exact H.out.own
set_option maxHeartbeats 800000 in
theorem mod_nhpz (a : Option Addr) (k prec : Int) (w : World) (h0 : St w.heap.size w (.slice none 0 0) [] a 0 [] w (.slice none 0 0) [])
     (hk : 0 ≤ k) (hk2 : k ≤ 1048576) (hp : 0 < prec) (hp2 : prec ≤ 1048576) :
    Calls Try.prog 13 #[.bool true, .slice a 0 0, .int .i64 k, .int .i64 prec] w fun e w' => ∃ v', e = .returned v' ∧ Own w' w.heap.size v' (fm true [] k prec) ∧ Below w.heap.size w w' := by
  have d1 : decide (k < 0) = false := by simp; omega
  have d2 : decide (0 < prec) = true := by simp; omega
  go_enter Try.func13, Try.ntmps13
  go_wp2_with (at_builtin; refine wp_lit rfl (.tmp 15) (.tmp 16) rfl _ rfl rfl h0 (by simp) ?_; intro v1 w1 h1)
  go_loopw [9, 12] (fun o p wr => ∃ (t : Nat) (q : Int), t ≤ (max k 0).toNat + 1 + prec.toNat ∧ Hid (q = min k 0 + t) ∧ 0 ≤ q ∧ q ≤ 4194304 ∧ p = .int .i64 (k - q) ∧ Hid (St w.heap.size w (.slice none 0 0) [] a 0 [] wr o (sg true ++ mdl [] k t))) (fun _ p _ => (intOf p + 1048577).toNat)
  case atStart => exact ⟨0, min k 0, by omega, by simp [Hid], by omega, by omega, by go_num, by simpa [Hid, sg, mdl_zero] using h1⟩
  case round =>
    obtain ⟨t, q, ht, hq, hq0, hq1, rfl, H⟩ := hrel
    have hlen : ((sg true ++ mdl [] k t).length : Nat) ≤ 8388608 := by have := mdl_length [] k t; have := sg_length true; simp; omega
    by_cases hgo : -prec ≤ k - q
    · by_cases hpt : k - q = -1
      · have HP : Hid (k - q = -1) := hpt
        have hpt1 : k - q ≤ -1 := by omega
        have hpt2 : -1 ≤ k - q := by omega
        clear hpt
        go_wp2_with (first | (at_builtin; refine wp_lit rfl (.tmp 33) (.tmp 34) rfl _ rfl rfl H.out (by simpa using Nat.le_trans hlen (by decide)) ?_; intro v3 w3 h3) | (at_builtin; refine wp_lit rfl (.tmp 54) (.tmp 55) rfl _ rfl rfl h3 (by simp at hlen ⊢; omega) ?_; intro v4 w4 h4))
        go_roundw
        case rel =>
          refine ⟨t + 1, q + 1, by have := hq.out; omega, by have := hq.out; unfold Hid; omega, by omega, by omega, by go_num, ?_⟩
          refine St.congr h4 ?_
          rw [mdl_step_point hq.out HP.out, chr_nil q]
          try simp
        case measure => simp [intOf]; omega
      · go_wp2_with (first | (at_builtin; refine wp_lit rfl (.tmp 54) (.tmp 55) rfl _ rfl rfl H.out (by simpa using Nat.le_trans hlen (by decide)) ?_; intro v4 w4 h4))
        go_roundw
        case rel =>
          refine ⟨t + 1, q + 1, by have := hq.out; omega, by have := hq.out; unfold Hid; omega, by omega, by omega, by go_num, ?_⟩
          refine St.congr h4 ?_
          rw [mdl_step hq.out hpt, chr_nil q]
          try simp
        case measure => simp [intOf]; omega
    · go_wp2
      go_ret
      have hq' := hq.out
      refine ⟨_, rfl, ?_, H.out.ap.below (Below.refl _ _) (Nat.le_refl _) (fun k hk => by simp [Value.ownBlock] at hk)⟩
      rw [← mdl_end1 true [] k prec hp, ← show t = (max k 0).toNat + 1 + prec.toNat by omega]
      exact H.out.own
set_option maxHeartbeats 800000 in
theorem mod_nlid (b n : Nat) (ds : List Int) (k prec : Int) (w : World) (h0 : St w.heap.size w (.slice none 0 0) [] (some ⟨b, 0, none⟩) n ds w (.slice none 0 0) [])
    (hl2 : ds.length = n) (hn : n ≤ 1048576) (hn0 : 0 < n) (hk : k < 0) (hk2 : -1048576 ≤ k) (hp : prec ≤ 0) (hp2 : -1048576 ≤ prec) :
    Calls Try.prog 13 #[.bool true, .slice (some ⟨b, 0, none⟩) n n, .int .i64 k, .int .i64 prec] w fun e w' => ∃ v', e = .returned v' ∧ Own w' w.heap.size v' (fm true ds k prec) ∧ Below w.heap.size w w' := by
  have L : Hid (ds.length = n) := hl2
  clear hl2
  have d1 : decide (k < 0) = true := by simp; omega
  have d2 : decide (0 < prec) = false := by simp; omega
  go_enter Try.func13, Try.ntmps13
  go_wp2_with (at_builtin; refine wp_lit rfl (.tmp 15) (.tmp 16) rfl _ rfl rfl h0 (by simp) ?_; intro v1 w1 h1)
  go_loopw [9, 12] (fun o p wr => ∃ (t : Nat) (q : Int), t ≤ (max k 0).toNat + 1 ∧ Hid (q = min k 0 + t) ∧ -4194304 ≤ q ∧ q ≤ 4194304 ∧ p = .int .i64 (k - q) ∧ Hid (St w.heap.size w (.slice none 0 0) [] (some ⟨b, 0, none⟩) n ds wr o (sg true ++ mdl ds k t))) (fun _ p _ => (intOf p + 1048577).toNat)
  case atStart => exact ⟨0, min k 0, by omega, by simp [Hid], by omega, by omega, by go_num, by simpa [Hid, sg, mdl_zero] using h1⟩
  case round =>
    obtain ⟨t, q, ht, hq, hq0, hq1, rfl, H⟩ := hrel
    have hlen : ((sg true ++ mdl ds k t).length : Nat) ≤ 8388608 := by have := mdl_length ds k t; have := sg_length true; simp; omega
    by_cases hgo : (0 : Int) ≤ k - q
    · have hpt : k - q ≠ -1 := by omega
      have hin1 : q < 0 := by omega
      go_wp2_with (first | (at_builtin; refine wp_lit rfl (.tmp 54) (.tmp 55) rfl _ rfl rfl H.out (by simpa using Nat.le_trans hlen (by decide)) ?_; intro v4 w4 h4))
      go_roundw
      case rel =>
        refine ⟨t + 1, q + 1, by have := hq.out; omega, by have := hq.out; unfold Hid; omega, by omega, by omega, by go_num, ?_⟩
        refine St.congr h4 ?_
        rw [mdl_step hq.out hpt, chr_out (ds := ds) (q := q) (by rw [L.out]; omega)]
        try simp
      case measure => simp [intOf]; omega
    · go_wp2
      go_ret
      have hq' := hq.out
      refine ⟨_, rfl, ?_, H.out.ap.below (Below.refl _ _) (Nat.le_refl _) (fun k hk => by simp [Value.ownBlock] at hk)⟩
      rw [← mdl_end0 true ds k prec hp, ← show t = (max k 0).toNat + 1 by omega]
      exact H.out.own
set_option maxHeartbeats 800000 in
theorem mod_nliz (a : Option Addr) (k prec : Int) (w : World) (h0 : St w.heap.size w (.slice none 0 0) [] a 0 [] w (.slice none 0 0) [])
     (hk : k < 0) (hk2 : -1048576 ≤ k) (hp : prec ≤ 0) (hp2 : -1048576 ≤ prec) :
    Calls Try.prog 13 #[.bool true, .slice a 0 0, .int .i64 k, .int .i64 prec] w fun e w' => ∃ v', e = .returned v' ∧ Own w' w.heap.size v' (fm true [] k prec) ∧ Below w.heap.size w w' := by
  have d1 : decide (k < 0) = true := by simp; omega
  have d2 : decide (0 < prec) = false := by simp; omega
  go_enter Try.func13, Try.ntmps13
  go_wp2_with (at_builtin; refine wp_lit rfl (.tmp 15) (.tmp 16) rfl _ rfl rfl h0 (by simp) ?_; intro v1 w1 h1)
  go_loopw [9, 12] (fun o p wr => ∃ (t : Nat) (q : Int), t ≤ (max k 0).toNat + 1 ∧ Hid (q = min k 0 + t) ∧ -4194304 ≤ q ∧ q ≤ 4194304 ∧ p = .int .i64 (k - q) ∧ Hid (St w.heap.size w (.slice none 0 0) [] a 0 [] wr o (sg true ++ mdl [] k t))) (fun _ p _ => (intOf p + 1048577).toNat)
  case atStart => exact ⟨0, min k 0, by omega, by simp [Hid], by omega, by omega, by go_num, by simpa [Hid, sg, mdl_zero] using h1⟩
  case round =>
    obtain ⟨t, q, ht, hq, hq0, hq1, rfl, H⟩ := hrel
    have hlen : ((sg true ++ mdl [] k t).length : Nat) ≤ 8388608 := by have := mdl_length [] k t; have := sg_length true; simp; omega
    by_cases hgo : (0 : Int) ≤ k - q
    · have hpt : k - q ≠ -1 := by omega
      have hin1 : q < 0 := by omega
      go_wp2_with (first | (at_builtin; refine wp_lit rfl (.tmp 54) (.tmp 55) rfl _ rfl rfl H.out (by simpa using Nat.le_trans hlen (by decide)) ?_; intro v4 w4 h4))
      go_roundw
      case rel =>
        refine ⟨t + 1, q + 1, by have := hq.out; omega, by have := hq.out; unfold Hid; omega, by omega, by omega, by go_num, ?_⟩
        refine St.congr h4 ?_
        rw [mdl_step hq.out hpt, chr_nil q]
        try simp
      case measure => simp [intOf]; omega
    · go_wp2
      go_ret
      have hq' := hq.out
      refine ⟨_, rfl, ?_, H.out.ap.below (Below.refl _ _) (Nat.le_refl _) (fun k hk => by simp [Value.ownBlock] at hk)⟩
      rw [← mdl_end0 true [] k prec hp, ← show t = (max k 0).toNat + 1 by omega]
      exact H.out.own
set_option maxHeartbeats 800000 in
theorem mod_nlpd (b n : Nat) (ds : List Int) (k prec : Int) (w : World) (h0 : St w.heap.size w (.slice none 0 0) [] (some ⟨b, 0, none⟩) n ds w (.slice none 0 0) [])
    (hl2 : ds.length = n) (hn : n ≤ 1048576) (hn0 : 0 < n) (hk : k < 0) (hk2 : -1048576 ≤ k) (hp : 0 < prec) (hp2 : prec ≤ 1048576) :
    Calls Try.prog 13 #[.bool true, .slice (some ⟨b, 0, none⟩) n n, .int .i64 k, .int .i64 prec] w fun e w' => ∃ v', e = .returned v' ∧ Own w' w.heap.size v' (fm true ds k prec) ∧ Below w.heap.size w w' := by
  have L : Hid (ds.length = n) := hl2
  clear hl2
  have d1 : decide (k < 0) = true := by simp; omega
  have d2 : decide (0 < prec) = true := by simp; omega
  go_enter Try.func13, Try.ntmps13
  go_wp2_with (at_builtin; refine wp_lit rfl (.tmp 15) (.tmp 16) rfl _ rfl rfl h0 (by simp) ?_; intro v1 w1 h1)
  go_loopw [9, 12] (fun o p wr => ∃ (t : Nat) (q : Int), t ≤ (max k 0).toNat + 1 + prec.toNat ∧ Hid (q = min k 0 + t) ∧ -4194304 ≤ q ∧ q ≤ 4194304 ∧ p = .int .i64 (k - q) ∧ Hid (St w.heap.size w (.slice none 0 0) [] (some ⟨b, 0, none⟩) n ds wr o (sg true ++ mdl ds k t))) (fun _ p _ => (intOf p + 1048577).toNat)
  case atStart => exact ⟨0, min k 0, by omega, by simp [Hid], by omega, by omega, by go_num, by simpa [Hid, sg, mdl_zero] using h1⟩
  case round =>
    obtain ⟨t, q, ht, hq, hq0, hq1, rfl, H⟩ := hrel
    have hlen : ((sg true ++ mdl ds k t).length : Nat) ≤ 8388608 := by have := mdl_length ds k t; have := sg_length true; simp; omega
    by_cases hgo : -prec ≤ k - q
    · by_cases hpt : k - q = -1
      · by_cases hin : 0 ≤ q ∧ q < n
        · obtain ⟨hin1, hin2⟩ := hin
          have HP : Hid (k - q = -1) := hpt
          have hpt1 : k - q ≤ -1 := by omega
          have hpt2 : -1 ≤ k - q := by omega
          clear hpt
          go_wp2_with (first | (at_builtin; refine wp_lit rfl (.tmp 33) (.tmp 34) rfl _ rfl rfl H.out (by simpa using Nat.le_trans hlen (by decide)) ?_; intro v3 w3 h3; have hc := (h3.rd.1.at (j := (k - (k - q)).toNat) (by omega)); rw [Nat.zero_add] at hc) | (at_builtin; refine wp_lit rfl (.tmp 47) (.tmp 52) rfl _ rfl rfl h3 (by simp at hlen ⊢; omega) ?_; intro v4 w4 h4))
          go_roundw
          case rel =>
            refine ⟨t + 1, q + 1, by have := hq.out; omega, by have := hq.out; unfold Hid; omega, by omega, by omega, by go_num, ?_⟩
            refine St.congr h4 ?_
            rw [mdl_step_point hq.out HP.out, chr_in (ds := ds) (q := q) (by omega) (by rw [L.out]; omega)]
            rw [show (k - (k - q)).toNat = q.toNat by omega]
            try simp
          case measure => simp [intOf]; omega
        · have hin1 : q < 0 := by omega
          clear hin
          have HP : Hid (k - q = -1) := hpt
          have hpt1 : k - q ≤ -1 := by omega
          have hpt2 : -1 ≤ k - q := by omega
          clear hpt
          go_wp2_with (first | (at_builtin; refine wp_lit rfl (.tmp 33) (.tmp 34) rfl _ rfl rfl H.out (by simpa using Nat.le_trans hlen (by decide)) ?_; intro v3 w3 h3) | (at_builtin; refine wp_lit rfl (.tmp 54) (.tmp 55) rfl _ rfl rfl h3 (by simp at hlen ⊢; omega) ?_; intro v4 w4 h4))
          go_roundw
          case rel =>
            refine ⟨t + 1, q + 1, by have := hq.out; omega, by have := hq.out; unfold Hid; omega, by omega, by omega, by go_num, ?_⟩
            refine St.congr h4 ?_
            rw [mdl_step_point hq.out HP.out, chr_out (ds := ds) (q := q) (by rw [L.out]; omega)]
            try simp
          case measure => simp [intOf]; omega
      · by_cases hin : 0 ≤ q ∧ q < n
        · obtain ⟨hin1, hin2⟩ := hin
          have hc := (H.out.rd.1.at (j := (k - (k - q)).toNat) (by omega))
          rw [Nat.zero_add] at hc
          go_wp2_with (first | (at_builtin; refine wp_lit rfl (.tmp 47) (.tmp 52) rfl _ rfl rfl H.out (by simpa using Nat.le_trans hlen (by decide)) ?_; intro v4 w4 h4))
          go_roundw
          case rel =>
            refine ⟨t + 1, q + 1, by have := hq.out; omega, by have := hq.out; unfold Hid; omega, by omega, by omega, by go_num, ?_⟩
            refine St.congr h4 ?_
            rw [mdl_step hq.out hpt, chr_in (ds := ds) (q := q) (by omega) (by rw [L.out]; omega)]
            rw [show (k - (k - q)).toNat = q.toNat by omega]
            try simp
          case measure => simp [intOf]; omega
        · rcases (show q < 0 ∨ (0 ≤ q ∧ (n : Int) ≤ q) by omega) with hin1 | ⟨hin1, hin2⟩
          · clear hin
            go_wp2_with (first | (at_builtin; refine wp_lit rfl (.tmp 54) (.tmp 55) rfl _ rfl rfl H.out (by simpa using Nat.le_trans hlen (by decide)) ?_; intro v4 w4 h4))
            go_roundw
            case rel =>
              refine ⟨t + 1, q + 1, by have := hq.out; omega, by have := hq.out; unfold Hid; omega, by omega, by omega, by go_num, ?_⟩
              refine St.congr h4 ?_
              rw [mdl_step hq.out hpt, chr_out (ds := ds) (q := q) (by rw [L.out]; omega)]
              try simp
            case measure => simp [intOf]; omega
          · clear hin
            go_wp2_with (first | (at_builtin; refine wp_lit rfl (.tmp 54) (.tmp 55) rfl _ rfl rfl H.out (by simpa using Nat.le_trans hlen (by decide)) ?_; intro v4 w4 h4))
            go_roundw
            case rel =>
              refine ⟨t + 1, q + 1, by have := hq.out; omega, by have := hq.out; unfold Hid; omega, by omega, by omega, by go_num, ?_⟩
              refine St.congr h4 ?_
              rw [mdl_step hq.out hpt, chr_out (ds := ds) (q := q) (by rw [L.out]; omega)]
              try simp
            case measure => simp [intOf]; omega
    · go_wp2
      go_ret
      have hq' := hq.out
      refine ⟨_, rfl, ?_, H.out.ap.below (Below.refl _ _) (Nat.le_refl _) (fun k hk => by simp [Value.ownBlock] at hk)⟩
      rw [← mdl_end1 true ds k prec hp, ← show t = (max k 0).toNat + 1 + prec.toNat by omega]
      exact H.out.own
set_option maxHeartbeats 800000 in
theorem mod_nlpz (a : Option Addr) (k prec : Int) (w : World) (h0 : St w.heap.size w (.slice none 0 0) [] a 0 [] w (.slice none 0 0) [])
     (hk : k < 0) (hk2 : -1048576 ≤ k) (hp : 0 < prec) (hp2 : prec ≤ 1048576) :
    Calls Try.prog 13 #[.bool true, .slice a 0 0, .int .i64 k, .int .i64 prec] w fun e w' => ∃ v', e = .returned v' ∧ Own w' w.heap.size v' (fm true [] k prec) ∧ Below w.heap.size w w' := by
  have d1 : decide (k < 0) = true := by simp; omega
  have d2 : decide (0 < prec) = true := by simp; omega
  go_enter Try.func13, Try.ntmps13
  go_wp2_with (at_builtin; refine wp_lit rfl (.tmp 15) (.tmp 16) rfl _ rfl rfl h0 (by simp) ?_; intro v1 w1 h1)
  go_loopw [9, 12] (fun o p wr => ∃ (t : Nat) (q : Int), t ≤ (max k 0).toNat + 1 + prec.toNat ∧ Hid (q = min k 0 + t) ∧ -4194304 ≤ q ∧ q ≤ 4194304 ∧ p = .int .i64 (k - q) ∧ Hid (St w.heap.size w (.slice none 0 0) [] a 0 [] wr o (sg true ++ mdl [] k t))) (fun _ p _ => (intOf p + 1048577).toNat)
  case atStart => exact ⟨0, min k 0, by omega, by simp [Hid], by omega, by omega, by go_num, by simpa [Hid, sg, mdl_zero] using h1⟩
  case round =>
    obtain ⟨t, q, ht, hq, hq0, hq1, rfl, H⟩ := hrel
    have hlen : ((sg true ++ mdl [] k t).length : Nat) ≤ 8388608 := by have := mdl_length [] k t; have := sg_length true; simp; omega
    by_cases hgo : -prec ≤ k - q
    · by_cases hpt : k - q = -1
      · by_cases hin1 : q < 0
        · have HP : Hid (k - q = -1) := hpt
          have hpt1 : k - q ≤ -1 := by omega
          have hpt2 : -1 ≤ k - q := by omega
          clear hpt
          go_wp2_with (first | (at_builtin; refine wp_lit rfl (.tmp 33) (.tmp 34) rfl _ rfl rfl H.out (by simpa using Nat.le_trans hlen (by decide)) ?_; intro v3 w3 h3) | (at_builtin; refine wp_lit rfl (.tmp 54) (.tmp 55) rfl _ rfl rfl h3 (by simp at hlen ⊢; omega) ?_; intro v4 w4 h4))
          go_roundw
          case rel =>
            refine ⟨t + 1, q + 1, by have := hq.out; omega, by have := hq.out; unfold Hid; omega, by omega, by omega, by go_num, ?_⟩
            refine St.congr h4 ?_
            rw [mdl_step_point hq.out HP.out, chr_nil q]
            try simp
          case measure => simp [intOf]; omega
        · have HP : Hid (k - q = -1) := hpt
          have hpt1 : k - q ≤ -1 := by omega
          have hpt2 : -1 ≤ k - q := by omega
          clear hpt
          go_wp2_with (first | (at_builtin; refine wp_lit rfl (.tmp 33) (.tmp 34) rfl _ rfl rfl H.out (by simpa using Nat.le_trans hlen (by decide)) ?_; intro v3 w3 h3) | (at_builtin; refine wp_lit rfl (.tmp 54) (.tmp 55) rfl _ rfl rfl h3 (by simp at hlen ⊢; omega) ?_; intro v4 w4 h4))
          go_roundw
          case rel =>
            refine ⟨t + 1, q + 1, by have := hq.out; omega, by have := hq.out; unfold Hid; omega, by omega, by omega, by go_num, ?_⟩
            refine St.congr h4 ?_
            rw [mdl_step_point hq.out HP.out, chr_nil q]
            try simp
          case measure => simp [intOf]; omega
      · by_cases hin1 : q < 0
        · go_wp2_with (first | (at_builtin; refine wp_lit rfl (.tmp 54) (.tmp 55) rfl _ rfl rfl H.out (by simpa using Nat.le_trans hlen (by decide)) ?_; intro v4 w4 h4))
          go_roundw
          case rel =>
            refine ⟨t + 1, q + 1, by have := hq.out; omega, by have := hq.out; unfold Hid; omega, by omega, by omega, by go_num, ?_⟩
            refine St.congr h4 ?_
            rw [mdl_step hq.out hpt, chr_nil q]
            try simp
          case measure => simp [intOf]; omega
        · go_wp2_with (first | (at_builtin; refine wp_lit rfl (.tmp 54) (.tmp 55) rfl _ rfl rfl H.out (by simpa using Nat.le_trans hlen (by decide)) ?_; intro v4 w4 h4))
          go_roundw
          case rel =>
            refine ⟨t + 1, q + 1, by have := hq.out; omega, by have := hq.out; unfold Hid; omega, by omega, by omega, by go_num, ?_⟩
            refine St.congr h4 ?_
            rw [mdl_step hq.out hpt, chr_nil q]
            try simp
          case measure => simp [intOf]; omega
    · go_wp2
      go_ret
      have hq' := hq.out
      refine ⟨_, rfl, ?_, H.out.ap.below (Below.refl _ _) (Nat.le_refl _) (fun k hk => by simp [Value.ownBlock] at hk)⟩
      rw [← mdl_end1 true [] k prec hp, ← show t = (max k 0).toNat + 1 + prec.toNat by omega]
      exact H.out.own
end Go.Proofs.Qxb6602854a.bys

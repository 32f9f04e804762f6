import Derived.Test.Qxb6602854aFixed
namespace Go.Proofs.Qxb6602854a.bys
open Go.RowKit
set_option linter.unusedSimpArgs false
set_option linter.unusedVariables false
set_option maxHeartbeats 400000 in
theorem fix_B (v : Value) (B : Nat) (bs : List Int) (b n : Nat) (ds : List Int) (k prec : Int) (w : World) (h1 : St B w v bs (some ⟨b, 0, none⟩) n ds w v [])
    (hl : bs.length ≤ 1048576) (hl2 : ds.length = n) (hn : n ≤ 1048576) (hk : -1048576 ≤ k) (hk2 : k ≤ 1048576) (hp : prec ≤ 0) (hp2 : -1048576 ≤ prec) (hpt : 0 < k + 1) (hn2 : k + 1 < n) :
    Calls Try.prog 22 #[v, .bool false, .slice (some ⟨b, 0, none⟩) n n, .int .i64 k, .int .i64 prec] w fun e w' => ∃ v', e = .returned v' ∧ Own w' B v' (bs ++ fm false ds k prec) ∧ Ap w v w' v' := by
  have F : Hid (_ = _) := fm_B false ds k prec hpt (by rw [hl2]; exact hn2) hp 
  have L : Hid (ds.length = n) := hl2
  have hdl : ds.length ≤ 1048576 := by omega
  clear hl2
  go_enter Try.func22, Try.ntmps22
  go_wp2_with (first
    | (at_builtin; refine wp_rd rfl (.tmp 27) (.tmp 30) rfl _ _ _ (ds.take (k + 1).toNat) rfl rfl h1 (h1.rd.1.take (by omega)) (by simp; omega) (by omega) ?_; intro v2 w2 h2)
    | (go_at_call_of 25 (v2); refine (zeros_st _ h2 (by simp; omega) (by omega) (by omega)).mono ?_; rintro e w3 ⟨v3, rfl, h3⟩))
  go_ret
  refine ⟨v3, rfl, own_congr h3.own (F.out.trans ?_), h3.ap⟩
  simp [sg, zz_0]
set_option maxHeartbeats 400000 in
theorem fix_Bp (v : Value) (B : Nat) (bs : List Int) (b n : Nat) (ds : List Int) (k prec : Int) (w : World) (h1 : St B w v bs (some ⟨b, 0, none⟩) n ds w v [])
    (hl : bs.length ≤ 1048576) (hl2 : ds.length = n) (hn : n ≤ 1048576) (hk : -1048576 ≤ k) (hk2 : k ≤ 1048576) (hp : 0 < prec) (hp2 : prec ≤ 1048576) (hd : -prec ≤ k - n + 1) (hpt : 0 < k + 1) (hn2 : k + 1 < n) :
    Calls Try.prog 22 #[v, .bool false, .slice (some ⟨b, 0, none⟩) n n, .int .i64 k, .int .i64 prec] w fun e w' => ∃ v', e = .returned v' ∧ Own w' B v' (bs ++ fm false ds k prec) ∧ Ap w v w' v' := by
  have F : Hid (_ = _) := fm_Bp false ds k prec hpt (by rw [hl2]; exact hn2) hp (by rw [hl2]; exact hd)
  have L : Hid (ds.length = n) := hl2
  have hdl : ds.length ≤ 1048576 := by omega
  clear hl2
  go_enter Try.func22, Try.ntmps22
  go_wp2_with (first
    | (at_builtin; refine wp_rd rfl (.tmp 27) (.tmp 30) rfl _ _ _ (ds.take (k + 1).toNat) rfl rfl h1 (h1.rd.1.take (by omega)) (by simp; omega) (by omega) ?_; intro v2 w2 h2)
    | (go_at_call_of 25 (v2); refine (zeros_st _ h2 (by simp; omega) (by omega) (by omega)).mono ?_; rintro e w3 ⟨v3, rfl, h3⟩)
    | (at_builtin; refine wp_lit rfl (.tmp 43) (.tmp 44) rfl _ rfl rfl h3 (by simp [zz_length]; omega) ?_; intro v4 w4 h4)
    | (go_at_call_of 25 (v4); refine (zeros_st _ h4 (by simp [zz_length]; omega) (by omega) (by omega)).mono ?_; rintro e w5 ⟨v5, rfl, h5⟩)
    | (at_builtin; refine wp_rd rfl (.tmp 59) (.tmp 60) rfl _ _ _ (ds.drop (k + 1).toNat) rfl rfl h5 (by have hh := h5.rd.1.drop (m := (k + 1).toNat) (by omega); simpa using hh) (by simp [zz_length]; omega) (by omega) ?_; intro v6 w6 h6)
    | (go_at_call_of 25 (v6); refine (zeros_st _ h6 (by simp [zz_length]; omega) (by omega) (by omega)).mono ?_; rintro e w7 ⟨v7, rfl, h7⟩))
  go_ret
  refine ⟨v7, rfl, own_congr h7.own (F.out.trans ?_), h7.ap⟩
  rw [zz_congr (M := prec - (ds.length - (k + 1))) (N := prec - ((n - (k + 1).toNat : Nat) : Int)) (by have := L.out; omega)]; simp [sg, zz_0]
set_option maxHeartbeats 400000 in
theorem fix_Bn (v : Value) (B : Nat) (bs : List Int) (b n : Nat) (ds : List Int) (k prec : Int) (w : World) (h0 : St B w v bs (some ⟨b, 0, none⟩) n ds w v [])
    (hl : bs.length ≤ 1048576) (hl2 : ds.length = n) (hn : n ≤ 1048576) (hk : -1048576 ≤ k) (hk2 : k ≤ 1048576) (hp : prec ≤ 0) (hp2 : -1048576 ≤ prec) (hpt : 0 < k + 1) (hn2 : k + 1 < n) :
    Calls Try.prog 22 #[v, .bool true, .slice (some ⟨b, 0, none⟩) n n, .int .i64 k, .int .i64 prec] w fun e w' => ∃ v', e = .returned v' ∧ Own w' B v' (bs ++ fm true ds k prec) ∧ Ap w v w' v' := by
  have F : Hid (_ = _) := fm_B true ds k prec hpt (by rw [hl2]; exact hn2) hp 
  have L : Hid (ds.length = n) := hl2
  have hdl : ds.length ≤ 1048576 := by omega
  clear hl2
  go_enter Try.func22, Try.ntmps22
  go_wp2_with (first
    | (at_builtin; refine wp_lit rfl (.tmp 16) (.tmp 17) rfl _ rfl rfl h0 (by simp; omega) ?_; intro v1 w1 h1)
    | (at_builtin; refine wp_rd rfl (.tmp 27) (.tmp 30) rfl _ _ _ (ds.take (k + 1).toNat) rfl rfl h1 (h1.rd.1.take (by omega)) (by simp; omega) (by omega) ?_; intro v2 w2 h2)
    | (go_at_call_of 25 (v2); refine (zeros_st _ h2 (by simp; omega) (by omega) (by omega)).mono ?_; rintro e w3 ⟨v3, rfl, h3⟩))
  go_ret
  refine ⟨v3, rfl, own_congr h3.own (F.out.trans ?_), h3.ap⟩
  simp [sg, zz_0]
set_option maxHeartbeats 400000 in
theorem fix_Bnp (v : Value) (B : Nat) (bs : List Int) (b n : Nat) (ds : List Int) (k prec : Int) (w : World) (h0 : St B w v bs (some ⟨b, 0, none⟩) n ds w v [])
    (hl : bs.length ≤ 1048576) (hl2 : ds.length = n) (hn : n ≤ 1048576) (hk : -1048576 ≤ k) (hk2 : k ≤ 1048576) (hp : 0 < prec) (hp2 : prec ≤ 1048576) (hd : -prec ≤ k - n + 1) (hpt : 0 < k + 1) (hn2 : k + 1 < n) :
    Calls Try.prog 22 #[v, .bool true, .slice (some ⟨b, 0, none⟩) n n, .int .i64 k, .int .i64 prec] w fun e w' => ∃ v', e = .returned v' ∧ Own w' B v' (bs ++ fm true ds k prec) ∧ Ap w v w' v' := by
  have F : Hid (_ = _) := fm_Bp true ds k prec hpt (by rw [hl2]; exact hn2) hp (by rw [hl2]; exact hd)
  have L : Hid (ds.length = n) := hl2
  have hdl : ds.length ≤ 1048576 := by omega
  clear hl2
  go_enter Try.func22, Try.ntmps22
  go_wp2_with (first
    | (at_builtin; refine wp_lit rfl (.tmp 16) (.tmp 17) rfl _ rfl rfl h0 (by simp; omega) ?_; intro v1 w1 h1)
    | (at_builtin; refine wp_rd rfl (.tmp 27) (.tmp 30) rfl _ _ _ (ds.take (k + 1).toNat) rfl rfl h1 (h1.rd.1.take (by omega)) (by simp; omega) (by omega) ?_; intro v2 w2 h2)
    | (go_at_call_of 25 (v2); refine (zeros_st _ h2 (by simp; omega) (by omega) (by omega)).mono ?_; rintro e w3 ⟨v3, rfl, h3⟩)
    | (at_builtin; refine wp_lit rfl (.tmp 43) (.tmp 44) rfl _ rfl rfl h3 (by simp [zz_length]; omega) ?_; intro v4 w4 h4)
    | (go_at_call_of 25 (v4); refine (zeros_st _ h4 (by simp [zz_length]; omega) (by omega) (by omega)).mono ?_; rintro e w5 ⟨v5, rfl, h5⟩)
    | (at_builtin; refine wp_rd rfl (.tmp 59) (.tmp 60) rfl _ _ _ (ds.drop (k + 1).toNat) rfl rfl h5 (by have hh := h5.rd.1.drop (m := (k + 1).toNat) (by omega); simpa using hh) (by simp [zz_length]; omega) (by omega) ?_; intro v6 w6 h6)
    | (go_at_call_of 25 (v6); refine (zeros_st _ h6 (by simp [zz_length]; omega) (by omega) (by omega)).mono ?_; rintro e w7 ⟨v7, rfl, h7⟩))
  go_ret
  refine ⟨v7, rfl, own_congr h7.own (F.out.trans ?_), h7.ap⟩
  rw [zz_congr (M := prec - (ds.length - (k + 1))) (N := prec - ((n - (k + 1).toNat : Nat) : Int)) (by have := L.out; omega)]; simp [sg, zz_0]
set_option maxHeartbeats 400000 in
theorem fix_E (v : Value) (B : Nat) (bs : List Int) (b n : Nat) (ds : List Int) (k prec : Int) (w : World) (h1 : St B w v bs (some ⟨b, 0, none⟩) n ds w v [])
    (hl : bs.length ≤ 1048576) (hl2 : ds.length = n) (hn : n ≤ 1048576) (hk : -1048576 ≤ k) (hk2 : k ≤ 1048576) (hp : prec ≤ 0) (hp2 : -1048576 ≤ prec) (hpt : 0 < k + 1) (hn1 : k + 1 ≤ n) (hn2 : (n : Int) ≤ k + 1) :
    Calls Try.prog 22 #[v, .bool false, .slice (some ⟨b, 0, none⟩) n n, .int .i64 k, .int .i64 prec] w fun e w' => ∃ v', e = .returned v' ∧ Own w' B v' (bs ++ fm false ds k prec) ∧ Ap w v w' v' := by
  have F : Hid (_ = _) := fm_C false ds k prec hpt (by rw [hl2]; omega) hp 
  have L : Hid (ds.length = n) := hl2
  have hdl : ds.length ≤ 1048576 := by omega
  clear hl2
  go_enter Try.func22, Try.ntmps22
  go_wp2_with (first
    | (at_builtin; refine wp_rd rfl (.tmp 27) (.tmp 30) rfl _ _ _ (ds.take (k + 1).toNat) rfl rfl h1 (h1.rd.1.take (by omega)) (by simp; omega) (by omega) ?_; intro v2 w2 h2)
    | (go_at_call_of 25 (v2); refine (zeros_st _ h2 (by simp; omega) (by omega) (by omega)).mono ?_; rintro e w3 ⟨v3, rfl, h3⟩))
  go_ret
  refine ⟨v3, rfl, own_congr h3.own (F.out.trans ?_), h3.ap⟩
  rw [List.take_of_length_le (show ds.length ≤ (k + 1).toNat by have := L.out; omega), zz_none (N := k + 1 - ds.length) (by have := L.out; omega)]; simp [sg, zz_0]
set_option maxHeartbeats 400000 in
theorem fix_Ep (v : Value) (B : Nat) (bs : List Int) (b n : Nat) (ds : List Int) (k prec : Int) (w : World) (h1 : St B w v bs (some ⟨b, 0, none⟩) n ds w v [])
    (hl : bs.length ≤ 1048576) (hl2 : ds.length = n) (hn : n ≤ 1048576) (hk : -1048576 ≤ k) (hk2 : k ≤ 1048576) (hp : 0 < prec) (hp2 : prec ≤ 1048576) (hd : -prec ≤ k - n + 1) (hpt : 0 < k + 1) (hn1 : k + 1 ≤ n) (hn2 : (n : Int) ≤ k + 1) :
    Calls Try.prog 22 #[v, .bool false, .slice (some ⟨b, 0, none⟩) n n, .int .i64 k, .int .i64 prec] w fun e w' => ∃ v', e = .returned v' ∧ Own w' B v' (bs ++ fm false ds k prec) ∧ Ap w v w' v' := by
  have F : Hid (_ = _) := fm_Cp false ds k prec hpt (by rw [hl2]; omega) hp 
  have L : Hid (ds.length = n) := hl2
  have hdl : ds.length ≤ 1048576 := by omega
  clear hl2
  go_enter Try.func22, Try.ntmps22
  go_wp2_with (first
    | (at_builtin; refine wp_rd rfl (.tmp 27) (.tmp 30) rfl _ _ _ (ds.take (k + 1).toNat) rfl rfl h1 (h1.rd.1.take (by omega)) (by simp; omega) (by omega) ?_; intro v2 w2 h2)
    | (go_at_call_of 25 (v2); refine (zeros_st _ h2 (by simp; omega) (by omega) (by omega)).mono ?_; rintro e w3 ⟨v3, rfl, h3⟩)
    | (at_builtin; refine wp_lit rfl (.tmp 43) (.tmp 44) rfl _ rfl rfl h3 (by simp [zz_length]; omega) ?_; intro v4 w4 h4)
    | (go_at_call_of 25 (v4); refine (zeros_st _ h4 (by simp [zz_length]; omega) (by omega) (by omega)).mono ?_; rintro e w5 ⟨v5, rfl, h5⟩)
    | (at_builtin; refine wp_rd rfl (.tmp 59) (.tmp 60) rfl _ _ _ [] rfl rfl h5 (Rd.none_of _ _ (by omega)) (by simp [zz_length]; omega) (by omega) ?_; intro v6 w6 h6)
    | (go_at_call_of 25 (v6); refine (zeros_st _ h6 (by simp [zz_length]; omega) (by omega) (by omega)).mono ?_; rintro e w7 ⟨v7, rfl, h7⟩))
  go_ret
  refine ⟨v7, rfl, own_congr h7.own (F.out.trans ?_), h7.ap⟩
  rw [List.take_of_length_le (show ds.length ≤ (k + 1).toNat by have := L.out; omega), zz_none (N := k + 1 - ds.length) (by have := L.out; omega), zz_congr (M := prec) (N := prec - ((n - (k + 1).toNat : Nat) : Int)) (by omega)]; simp [sg, zz_0]
set_option maxHeartbeats 400000 in
theorem fix_En (v : Value) (B : Nat) (bs : List Int) (b n : Nat) (ds : List Int) (k prec : Int) (w : World) (h0 : St B w v bs (some ⟨b, 0, none⟩) n ds w v [])
    (hl : bs.length ≤ 1048576) (hl2 : ds.length = n) (hn : n ≤ 1048576) (hk : -1048576 ≤ k) (hk2 : k ≤ 1048576) (hp : prec ≤ 0) (hp2 : -1048576 ≤ prec) (hpt : 0 < k + 1) (hn1 : k + 1 ≤ n) (hn2 : (n : Int) ≤ k + 1) :
    Calls Try.prog 22 #[v, .bool true, .slice (some ⟨b, 0, none⟩) n n, .int .i64 k, .int .i64 prec] w fun e w' => ∃ v', e = .returned v' ∧ Own w' B v' (bs ++ fm true ds k prec) ∧ Ap w v w' v' := by
  have F : Hid (_ = _) := fm_C true ds k prec hpt (by rw [hl2]; omega) hp 
  have L : Hid (ds.length = n) := hl2
  have hdl : ds.length ≤ 1048576 := by omega
  clear hl2
  go_enter Try.func22, Try.ntmps22
  go_wp2_with (first
    | (at_builtin; refine wp_lit rfl (.tmp 16) (.tmp 17) rfl _ rfl rfl h0 (by simp; omega) ?_; intro v1 w1 h1)
    | (at_builtin; refine wp_rd rfl (.tmp 27) (.tmp 30) rfl _ _ _ (ds.take (k + 1).toNat) rfl rfl h1 (h1.rd.1.take (by omega)) (by simp; omega) (by omega) ?_; intro v2 w2 h2)
    | (go_at_call_of 25 (v2); refine (zeros_st _ h2 (by simp; omega) (by omega) (by omega)).mono ?_; rintro e w3 ⟨v3, rfl, h3⟩))
  go_ret
  refine ⟨v3, rfl, own_congr h3.own (F.out.trans ?_), h3.ap⟩
  rw [List.take_of_length_le (show ds.length ≤ (k + 1).toNat by have := L.out; omega), zz_none (N := k + 1 - ds.length) (by have := L.out; omega)]; simp [sg, zz_0]
set_option maxHeartbeats 400000 in
theorem fix_Enp (v : Value) (B : Nat) (bs : List Int) (b n : Nat) (ds : List Int) (k prec : Int) (w : World) (h0 : St B w v bs (some ⟨b, 0, none⟩) n ds w v [])
    (hl : bs.length ≤ 1048576) (hl2 : ds.length = n) (hn : n ≤ 1048576) (hk : -1048576 ≤ k) (hk2 : k ≤ 1048576) (hp : 0 < prec) (hp2 : prec ≤ 1048576) (hd : -prec ≤ k - n + 1) (hpt : 0 < k + 1) (hn1 : k + 1 ≤ n) (hn2 : (n : Int) ≤ k + 1) :
    Calls Try.prog 22 #[v, .bool true, .slice (some ⟨b, 0, none⟩) n n, .int .i64 k, .int .i64 prec] w fun e w' => ∃ v', e = .returned v' ∧ Own w' B v' (bs ++ fm true ds k prec) ∧ Ap w v w' v' := by
  have F : Hid (_ = _) := fm_Cp true ds k prec hpt (by rw [hl2]; omega) hp 
  have L : Hid (ds.length = n) := hl2
  have hdl : ds.length ≤ 1048576 := by omega
  clear hl2
  go_enter Try.func22, Try.ntmps22
  go_wp2_with (first
    | (at_builtin; refine wp_lit rfl (.tmp 16) (.tmp 17) rfl _ rfl rfl h0 (by simp; omega) ?_; intro v1 w1 h1)
    | (at_builtin; refine wp_rd rfl (.tmp 27) (.tmp 30) rfl _ _ _ (ds.take (k + 1).toNat) rfl rfl h1 (h1.rd.1.take (by omega)) (by simp; omega) (by omega) ?_; intro v2 w2 h2)
    | (go_at_call_of 25 (v2); refine (zeros_st _ h2 (by simp; omega) (by omega) (by omega)).mono ?_; rintro e w3 ⟨v3, rfl, h3⟩)
    | (at_builtin; refine wp_lit rfl (.tmp 43) (.tmp 44) rfl _ rfl rfl h3 (by simp [zz_length]; omega) ?_; intro v4 w4 h4)
    | (go_at_call_of 25 (v4); refine (zeros_st _ h4 (by simp [zz_length]; omega) (by omega) (by omega)).mono ?_; rintro e w5 ⟨v5, rfl, h5⟩)
    | (at_builtin; refine wp_rd rfl (.tmp 59) (.tmp 60) rfl _ _ _ [] rfl rfl h5 (Rd.none_of _ _ (by omega)) (by simp [zz_length]; omega) (by omega) ?_; intro v6 w6 h6)
    | (go_at_call_of 25 (v6); refine (zeros_st _ h6 (by simp [zz_length]; omega) (by omega) (by omega)).mono ?_; rintro e w7 ⟨v7, rfl, h7⟩))
  go_ret
  refine ⟨v7, rfl, own_congr h7.own (F.out.trans ?_), h7.ap⟩
  rw [List.take_of_length_le (show ds.length ≤ (k + 1).toNat by have := L.out; omega), zz_none (N := k + 1 - ds.length) (by have := L.out; omega), zz_congr (M := prec) (N := prec - ((n - (k + 1).toNat : Nat) : Int)) (by omega)]; simp [sg, zz_0]
set_option maxHeartbeats 400000 in
theorem fix_C (v : Value) (B : Nat) (bs : List Int) (b n : Nat) (ds : List Int) (k prec : Int) (w : World) (h1 : St B w v bs (some ⟨b, 0, none⟩) n ds w v [])
    (hl : bs.length ≤ 1048576) (hl2 : ds.length = n) (hn : n ≤ 1048576) (hk : -1048576 ≤ k) (hk2 : k ≤ 1048576) (hp : prec ≤ 0) (hp2 : -1048576 ≤ prec) (hpt : 0 < k + 1) (hn2 : (n : Int) < k + 1) :
    Calls Try.prog 22 #[v, .bool false, .slice (some ⟨b, 0, none⟩) n n, .int .i64 k, .int .i64 prec] w fun e w' => ∃ v', e = .returned v' ∧ Own w' B v' (bs ++ fm false ds k prec) ∧ Ap w v w' v' := by
  have F : Hid (_ = _) := fm_C false ds k prec hpt (by rw [hl2]; omega) hp 
  have L : Hid (ds.length = n) := hl2
  have hdl : ds.length ≤ 1048576 := by omega
  clear hl2
  go_enter Try.func22, Try.ntmps22
  go_wp2_with (first
    | (at_builtin; refine wp_rd rfl (.tmp 27) (.tmp 30) rfl _ _ _ (ds.take n) rfl rfl h1 (h1.rd.1.take (by omega)) (by simp; omega) (by omega) ?_; intro v2 w2 h2)
    | (go_at_call_of 25 (v2); refine (zeros_st _ h2 (by simp; omega) (by omega) (by omega)).mono ?_; rintro e w3 ⟨v3, rfl, h3⟩))
  go_ret
  refine ⟨v3, rfl, own_congr h3.own (F.out.trans ?_), h3.ap⟩
  rw [List.take_of_length_le (show ds.length ≤ n by have := L.out; omega), L.out]; simp [sg]
set_option maxHeartbeats 400000 in
theorem fix_Cp (v : Value) (B : Nat) (bs : List Int) (b n : Nat) (ds : List Int) (k prec : Int) (w : World) (h1 : St B w v bs (some ⟨b, 0, none⟩) n ds w v [])
    (hl : bs.length ≤ 1048576) (hl2 : ds.length = n) (hn : n ≤ 1048576) (hk : -1048576 ≤ k) (hk2 : k ≤ 1048576) (hp : 0 < prec) (hp2 : prec ≤ 1048576) (hd : -prec ≤ k - n + 1) (hpt : 0 < k + 1) (hn2 : (n : Int) < k + 1) :
    Calls Try.prog 22 #[v, .bool false, .slice (some ⟨b, 0, none⟩) n n, .int .i64 k, .int .i64 prec] w fun e w' => ∃ v', e = .returned v' ∧ Own w' B v' (bs ++ fm false ds k prec) ∧ Ap w v w' v' := by
  have F : Hid (_ = _) := fm_Cp false ds k prec hpt (by rw [hl2]; omega) hp 
  have L : Hid (ds.length = n) := hl2
  have hdl : ds.length ≤ 1048576 := by omega
  clear hl2
  go_enter Try.func22, Try.ntmps22
  go_wp2_with (first
    | (at_builtin; refine wp_rd rfl (.tmp 27) (.tmp 30) rfl _ _ _ (ds.take n) rfl rfl h1 (h1.rd.1.take (by omega)) (by simp; omega) (by omega) ?_; intro v2 w2 h2)
    | (go_at_call_of 25 (v2); refine (zeros_st _ h2 (by simp; omega) (by omega) (by omega)).mono ?_; rintro e w3 ⟨v3, rfl, h3⟩)
    | (at_builtin; refine wp_lit rfl (.tmp 43) (.tmp 44) rfl _ rfl rfl h3 (by simp [zz_length]; omega) ?_; intro v4 w4 h4)
    | (go_at_call_of 25 (v4); refine (zeros_st _ h4 (by simp [zz_length]; omega) (by omega) (by omega)).mono ?_; rintro e w5 ⟨v5, rfl, h5⟩)
    | (at_builtin; refine wp_rd rfl (.tmp 59) (.tmp 60) rfl _ _ _ [] rfl rfl h5 (Rd.none_of _ _ (by omega)) (by simp [zz_length]; omega) (by omega) ?_; intro v6 w6 h6)
    | (go_at_call_of 25 (v6); refine (zeros_st _ h6 (by simp [zz_length]; omega) (by omega) (by omega)).mono ?_; rintro e w7 ⟨v7, rfl, h7⟩))
  go_ret
  refine ⟨v7, rfl, own_congr h7.own (F.out.trans ?_), h7.ap⟩
  rw [List.take_of_length_le (show ds.length ≤ n by have := L.out; omega), L.out]; simp [sg, zz_0]
set_option maxHeartbeats 400000 in
theorem fix_Cn (v : Value) (B : Nat) (bs : List Int) (b n : Nat) (ds : List Int) (k prec : Int) (w : World) (h0 : St B w v bs (some ⟨b, 0, none⟩) n ds w v [])
    (hl : bs.length ≤ 1048576) (hl2 : ds.length = n) (hn : n ≤ 1048576) (hk : -1048576 ≤ k) (hk2 : k ≤ 1048576) (hp : prec ≤ 0) (hp2 : -1048576 ≤ prec) (hpt : 0 < k + 1) (hn2 : (n : Int) < k + 1) :
    Calls Try.prog 22 #[v, .bool true, .slice (some ⟨b, 0, none⟩) n n, .int .i64 k, .int .i64 prec] w fun e w' => ∃ v', e = .returned v' ∧ Own w' B v' (bs ++ fm true ds k prec) ∧ Ap w v w' v' := by
  have F : Hid (_ = _) := fm_C true ds k prec hpt (by rw [hl2]; omega) hp 
  have L : Hid (ds.length = n) := hl2
  have hdl : ds.length ≤ 1048576 := by omega
  clear hl2
  go_enter Try.func22, Try.ntmps22
  go_wp2_with (first
    | (at_builtin; refine wp_lit rfl (.tmp 16) (.tmp 17) rfl _ rfl rfl h0 (by simp; omega) ?_; intro v1 w1 h1)
    | (at_builtin; refine wp_rd rfl (.tmp 27) (.tmp 30) rfl _ _ _ (ds.take n) rfl rfl h1 (h1.rd.1.take (by omega)) (by simp; omega) (by omega) ?_; intro v2 w2 h2)
    | (go_at_call_of 25 (v2); refine (zeros_st _ h2 (by simp; omega) (by omega) (by omega)).mono ?_; rintro e w3 ⟨v3, rfl, h3⟩))
  go_ret
  refine ⟨v3, rfl, own_congr h3.own (F.out.trans ?_), h3.ap⟩
  rw [List.take_of_length_le (show ds.length ≤ n by have := L.out; omega), L.out]; simp [sg]
set_option maxHeartbeats 400000 in
theorem fix_Cnp (v : Value) (B : Nat) (bs : List Int) (b n : Nat) (ds : List Int) (k prec : Int) (w : World) (h0 : St B w v bs (some ⟨b, 0, none⟩) n ds w v [])
    (hl : bs.length ≤ 1048576) (hl2 : ds.length = n) (hn : n ≤ 1048576) (hk : -1048576 ≤ k) (hk2 : k ≤ 1048576) (hp : 0 < prec) (hp2 : prec ≤ 1048576) (hd : -prec ≤ k - n + 1) (hpt : 0 < k + 1) (hn2 : (n : Int) < k + 1) :
    Calls Try.prog 22 #[v, .bool true, .slice (some ⟨b, 0, none⟩) n n, .int .i64 k, .int .i64 prec] w fun e w' => ∃ v', e = .returned v' ∧ Own w' B v' (bs ++ fm true ds k prec) ∧ Ap w v w' v' := by
  have F : Hid (_ = _) := fm_Cp true ds k prec hpt (by rw [hl2]; omega) hp 
  have L : Hid (ds.length = n) := hl2
  have hdl : ds.length ≤ 1048576 := by omega
  clear hl2
  go_enter Try.func22, Try.ntmps22
  go_wp2_with (first
    | (at_builtin; refine wp_lit rfl (.tmp 16) (.tmp 17) rfl _ rfl rfl h0 (by simp; omega) ?_; intro v1 w1 h1)
    | (at_builtin; refine wp_rd rfl (.tmp 27) (.tmp 30) rfl _ _ _ (ds.take n) rfl rfl h1 (h1.rd.1.take (by omega)) (by simp; omega) (by omega) ?_; intro v2 w2 h2)
    | (go_at_call_of 25 (v2); refine (zeros_st _ h2 (by simp; omega) (by omega) (by omega)).mono ?_; rintro e w3 ⟨v3, rfl, h3⟩)
    | (at_builtin; refine wp_lit rfl (.tmp 43) (.tmp 44) rfl _ rfl rfl h3 (by simp [zz_length]; omega) ?_; intro v4 w4 h4)
    | (go_at_call_of 25 (v4); refine (zeros_st _ h4 (by simp [zz_length]; omega) (by omega) (by omega)).mono ?_; rintro e w5 ⟨v5, rfl, h5⟩)
    | (at_builtin; refine wp_rd rfl (.tmp 59) (.tmp 60) rfl _ _ _ [] rfl rfl h5 (Rd.none_of _ _ (by omega)) (by simp [zz_length]; omega) (by omega) ?_; intro v6 w6 h6)
    | (go_at_call_of 25 (v6); refine (zeros_st _ h6 (by simp [zz_length]; omega) (by omega) (by omega)).mono ?_; rintro e w7 ⟨v7, rfl, h7⟩))
  go_ret
  refine ⟨v7, rfl, own_congr h7.own (F.out.trans ?_), h7.ap⟩
  rw [List.take_of_length_le (show ds.length ≤ n by have := L.out; omega), L.out]; simp [sg, zz_0]
set_option maxHeartbeats 400000 in
theorem fix_N (v : Value) (B : Nat) (bs : List Int)  (k prec : Int) (w : World) (h1 : St B w v bs (none) 0 [] w v [])
    (hl : bs.length ≤ 1048576)  (hk : -1048576 ≤ k) (hk2 : k ≤ 1048576) (hp : prec ≤ 0) (hp2 : -1048576 ≤ prec) (hpt : 0 < k + 1) :
    Calls Try.prog 22 #[v, .bool false, .slice (none) 0 0, .int .i64 k, .int .i64 prec] w fun e w' => ∃ v', e = .returned v' ∧ Own w' B v' (bs ++ fm false [] k prec) ∧ Ap w v w' v' := by
  have F : Hid (_ = _) := fm_C false [] k prec hpt (by simp; omega) hp 
  go_enter Try.func22, Try.ntmps22
  go_wp2_with (first
    | (at_builtin; refine wp_rd rfl (.tmp 27) (.tmp 30) rfl _ _ _ [] rfl rfl h1 (Rd.nothing _ _) (by simp; omega) (by omega) ?_; intro v2 w2 h2)
    | (go_at_call_of 25 (v2); refine (zeros_st _ h2 (by simp; omega) (by omega) (by omega)).mono ?_; rintro e w3 ⟨v3, rfl, h3⟩))
  go_ret
  refine ⟨v3, rfl, own_congr h3.own (F.out.trans ?_), h3.ap⟩
  simp [sg]
set_option maxHeartbeats 400000 in
theorem fix_Np (v : Value) (B : Nat) (bs : List Int)  (k prec : Int) (w : World) (h1 : St B w v bs (none) 0 [] w v [])
    (hl : bs.length ≤ 1048576)  (hk : -1048576 ≤ k) (hk2 : k ≤ 1048576) (hp : 0 < prec) (hp2 : prec ≤ 1048576) (hd : -prec ≤ k - 0 + 1) (hpt : 0 < k + 1) :
    Calls Try.prog 22 #[v, .bool false, .slice (none) 0 0, .int .i64 k, .int .i64 prec] w fun e w' => ∃ v', e = .returned v' ∧ Own w' B v' (bs ++ fm false [] k prec) ∧ Ap w v w' v' := by
  have F : Hid (_ = _) := fm_Cp false [] k prec hpt (by simp; omega) hp 
  go_enter Try.func22, Try.ntmps22
  go_wp2_with (first
    | (at_builtin; refine wp_rd rfl (.tmp 27) (.tmp 30) rfl _ _ _ [] rfl rfl h1 (Rd.nothing _ _) (by simp; omega) (by omega) ?_; intro v2 w2 h2)
    | (go_at_call_of 25 (v2); refine (zeros_st _ h2 (by simp; omega) (by omega) (by omega)).mono ?_; rintro e w3 ⟨v3, rfl, h3⟩)
    | (at_builtin; refine wp_lit rfl (.tmp 43) (.tmp 44) rfl _ rfl rfl h3 (by simp [zz_length]; omega) ?_; intro v4 w4 h4)
    | (go_at_call_of 25 (v4); refine (zeros_st _ h4 (by simp [zz_length]; omega) (by omega) (by omega)).mono ?_; rintro e w5 ⟨v5, rfl, h5⟩)
    | (at_builtin; refine wp_rd rfl (.tmp 59) (.tmp 60) rfl _ _ _ [] rfl rfl h5 (Rd.none_of _ _ (by omega)) (by simp [zz_length]; omega) (by omega) ?_; intro v6 w6 h6)
    | (go_at_call_of 25 (v6); refine (zeros_st _ h6 (by simp [zz_length]; omega) (by omega) (by omega)).mono ?_; rintro e w7 ⟨v7, rfl, h7⟩))
  go_ret
  refine ⟨v7, rfl, own_congr h7.own (F.out.trans ?_), h7.ap⟩
  simp [sg, zz_0]
set_option maxHeartbeats 400000 in
theorem fix_Nn (v : Value) (B : Nat) (bs : List Int)  (k prec : Int) (w : World) (h0 : St B w v bs (none) 0 [] w v [])
    (hl : bs.length ≤ 1048576)  (hk : -1048576 ≤ k) (hk2 : k ≤ 1048576) (hp : prec ≤ 0) (hp2 : -1048576 ≤ prec) (hpt : 0 < k + 1) :
    Calls Try.prog 22 #[v, .bool true, .slice (none) 0 0, .int .i64 k, .int .i64 prec] w fun e w' => ∃ v', e = .returned v' ∧ Own w' B v' (bs ++ fm true [] k prec) ∧ Ap w v w' v' := by
  have F : Hid (_ = _) := fm_C true [] k prec hpt (by simp; omega) hp 
  go_enter Try.func22, Try.ntmps22
  go_wp2_with (first
    | (at_builtin; refine wp_lit rfl (.tmp 16) (.tmp 17) rfl _ rfl rfl h0 (by simp; omega) ?_; intro v1 w1 h1)
    | (at_builtin; refine wp_rd rfl (.tmp 27) (.tmp 30) rfl _ _ _ [] rfl rfl h1 (Rd.nothing _ _) (by simp; omega) (by omega) ?_; intro v2 w2 h2)
    | (go_at_call_of 25 (v2); refine (zeros_st _ h2 (by simp; omega) (by omega) (by omega)).mono ?_; rintro e w3 ⟨v3, rfl, h3⟩))
  go_ret
  refine ⟨v3, rfl, own_congr h3.own (F.out.trans ?_), h3.ap⟩
  simp [sg]
set_option maxHeartbeats 400000 in
theorem fix_Nnp (v : Value) (B : Nat) (bs : List Int)  (k prec : Int) (w : World) (h0 : St B w v bs (none) 0 [] w v [])
    (hl : bs.length ≤ 1048576)  (hk : -1048576 ≤ k) (hk2 : k ≤ 1048576) (hp : 0 < prec) (hp2 : prec ≤ 1048576) (hd : -prec ≤ k - 0 + 1) (hpt : 0 < k + 1) :
    Calls Try.prog 22 #[v, .bool true, .slice (none) 0 0, .int .i64 k, .int .i64 prec] w fun e w' => ∃ v', e = .returned v' ∧ Own w' B v' (bs ++ fm true [] k prec) ∧ Ap w v w' v' := by
  have F : Hid (_ = _) := fm_Cp true [] k prec hpt (by simp; omega) hp 
  go_enter Try.func22, Try.ntmps22
  go_wp2_with (first
    | (at_builtin; refine wp_lit rfl (.tmp 16) (.tmp 17) rfl _ rfl rfl h0 (by simp; omega) ?_; intro v1 w1 h1)
    | (at_builtin; refine wp_rd rfl (.tmp 27) (.tmp 30) rfl _ _ _ [] rfl rfl h1 (Rd.nothing _ _) (by simp; omega) (by omega) ?_; intro v2 w2 h2)
    | (go_at_call_of 25 (v2); refine (zeros_st _ h2 (by simp; omega) (by omega) (by omega)).mono ?_; rintro e w3 ⟨v3, rfl, h3⟩)
    | (at_builtin; refine wp_lit rfl (.tmp 43) (.tmp 44) rfl _ rfl rfl h3 (by simp [zz_length]; omega) ?_; intro v4 w4 h4)
    | (go_at_call_of 25 (v4); refine (zeros_st _ h4 (by simp [zz_length]; omega) (by omega) (by omega)).mono ?_; rintro e w5 ⟨v5, rfl, h5⟩)
    | (at_builtin; refine wp_rd rfl (.tmp 59) (.tmp 60) rfl _ _ _ [] rfl rfl h5 (Rd.none_of _ _ (by omega)) (by simp [zz_length]; omega) (by omega) ?_; intro v6 w6 h6)
    | (go_at_call_of 25 (v6); refine (zeros_st _ h6 (by simp [zz_length]; omega) (by omega) (by omega)).mono ?_; rintro e w7 ⟨v7, rfl, h7⟩))
  go_ret
  refine ⟨v7, rfl, own_congr h7.own (F.out.trans ?_), h7.ap⟩
  simp [sg, zz_0]
end Go.Proofs.Qxb6602854a.bys

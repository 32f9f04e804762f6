import Derived.Test.Qxb6602854aFixed
namespace Go.Proofs.Qxb6602854a.bys
open Go.RowKit
set_option linter.unusedSimpArgs false
set_option linter.unusedVariables false
set_option maxHeartbeats 400000 in
theorem fix_A (v : Value) (B : Nat) (bs : List Int) (b n : Nat) (ds : List Int) (k prec : Int) (w : World) (h1 : St B w v bs (some ⟨b, 0, none⟩) n ds w v [])
    (hl : bs.length ≤ 1048576) (hl2 : ds.length = n) (hn : n ≤ 1048576) (hk : -1048576 ≤ k) (hk2 : k ≤ 1048576) (hp : prec ≤ 0) (hp2 : -1048576 ≤ prec) (hpt : k + 1 < 0) (hn0 : 0 < n) :
    Calls Try.prog 22 #[v, .bool false, .slice (some ⟨b, 0, none⟩) n n, .int .i64 k, .int .i64 prec] w fun e w' => ∃ v', e = .returned v' ∧ Own w' B v' (bs ++ fm false ds k prec) ∧ Ap w v w' v' := by
  have F : Hid (_ = _) := fm_A false ds k prec (by omega)  hp 
  have L : Hid (ds.length = n) := hl2
  have hdl : ds.length ≤ 1048576 := by omega
  clear hl2
  go_enter Try.func22, Try.ntmps22
  go_wp2_with (first
    | (at_builtin; refine wp_lit rfl (.tmp 37) (.tmp 38) rfl _ rfl rfl h1 (by simp; omega) ?_; intro v3 w3 h3))
  go_ret
  refine ⟨v3, rfl, own_congr h3.own (F.out.trans ?_), h3.ap⟩
  simp [sg]
set_option maxHeartbeats 400000 in
theorem fix_Ap (v : Value) (B : Nat) (bs : List Int) (b n : Nat) (ds : List Int) (k prec : Int) (w : World) (h1 : St B w v bs (some ⟨b, 0, none⟩) n ds w v [])
    (hl : bs.length ≤ 1048576) (hl2 : ds.length = n) (hn : n ≤ 1048576) (hk : -1048576 ≤ k) (hk2 : k ≤ 1048576) (hp : 0 < prec) (hp2 : prec ≤ 1048576) (hd : -prec ≤ k - n + 1) (hpt : k + 1 < 0) (hn0 : 0 < n) :
    Calls Try.prog 22 #[v, .bool false, .slice (some ⟨b, 0, none⟩) n n, .int .i64 k, .int .i64 prec] w fun e w' => ∃ v', e = .returned v' ∧ Own w' B v' (bs ++ fm false ds k prec) ∧ Ap w v w' v' := by
  have F : Hid (_ = _) := fm_Ap false ds k prec (by omega)  hp (by rw [hl2]; exact hd)
  have L : Hid (ds.length = n) := hl2
  have hdl : ds.length ≤ 1048576 := by omega
  clear hl2
  go_enter Try.func22, Try.ntmps22
  go_wp2_with (first
    | (at_builtin; refine wp_lit rfl (.tmp 37) (.tmp 38) rfl _ rfl rfl h1 (by simp; omega) ?_; intro v3 w3 h3)
    | (at_builtin; refine wp_lit rfl (.tmp 43) (.tmp 44) rfl _ rfl rfl h3 (by simp [zz_length]; omega) ?_; intro v4 w4 h4)
    | (go_at_call_of 25 (v4); refine (zeros_st _ h4 (by simp [zz_length]; omega) (by omega) (by omega)).mono ?_; rintro e w5 ⟨v5, rfl, h5⟩)
    | (at_builtin; refine wp_rd rfl (.tmp 59) (.tmp 60) rfl _ _ _ ds rfl rfl h5 h5.rd.1 (by simp [zz_length]; omega) (by omega) ?_; intro v6 w6 h6)
    | (go_at_call_of 25 (v6); refine (zeros_st _ h6 (by simp [zz_length]; omega) (by omega) (by omega)).mono ?_; rintro e w7 ⟨v7, rfl, h7⟩))
  go_ret
  refine ⟨v7, rfl, own_congr h7.own (F.out.trans ?_), h7.ap⟩
  rw [zz_congr (M := prec - -(k + 1) - ds.length) (N := prec + (k + 1) - n) (by have := L.out; omega)]; simp [sg]
set_option maxHeartbeats 400000 in
theorem fix_An (v : Value) (B : Nat) (bs : List Int) (b n : Nat) (ds : List Int) (k prec : Int) (w : World) (h0 : St B w v bs (some ⟨b, 0, none⟩) n ds w v [])
    (hl : bs.length ≤ 1048576) (hl2 : ds.length = n) (hn : n ≤ 1048576) (hk : -1048576 ≤ k) (hk2 : k ≤ 1048576) (hp : prec ≤ 0) (hp2 : -1048576 ≤ prec) (hpt : k + 1 < 0) (hn0 : 0 < n) :
    Calls Try.prog 22 #[v, .bool true, .slice (some ⟨b, 0, none⟩) n n, .int .i64 k, .int .i64 prec] w fun e w' => ∃ v', e = .returned v' ∧ Own w' B v' (bs ++ fm true ds k prec) ∧ Ap w v w' v' := by
  have F : Hid (_ = _) := fm_A true ds k prec (by omega)  hp 
  have L : Hid (ds.length = n) := hl2
  have hdl : ds.length ≤ 1048576 := by omega
  clear hl2
  go_enter Try.func22, Try.ntmps22
  go_wp2_with (first
    | (at_builtin; refine wp_lit rfl (.tmp 16) (.tmp 17) rfl _ rfl rfl h0 (by simp; omega) ?_; intro v1 w1 h1)
    | (at_builtin; refine wp_lit rfl (.tmp 37) (.tmp 38) rfl _ rfl rfl h1 (by simp; omega) ?_; intro v3 w3 h3))
  go_ret
  refine ⟨v3, rfl, own_congr h3.own (F.out.trans ?_), h3.ap⟩
  simp [sg]
set_option maxHeartbeats 400000 in
theorem fix_Anp (v : Value) (B : Nat) (bs : List Int) (b n : Nat) (ds : List Int) (k prec : Int) (w : World) (h0 : St B w v bs (some ⟨b, 0, none⟩) n ds w v [])
    (hl : bs.length ≤ 1048576) (hl2 : ds.length = n) (hn : n ≤ 1048576) (hk : -1048576 ≤ k) (hk2 : k ≤ 1048576) (hp : 0 < prec) (hp2 : prec ≤ 1048576) (hd : -prec ≤ k - n + 1) (hpt : k + 1 < 0) (hn0 : 0 < n) :
    Calls Try.prog 22 #[v, .bool true, .slice (some ⟨b, 0, none⟩) n n, .int .i64 k, .int .i64 prec] w fun e w' => ∃ v', e = .returned v' ∧ Own w' B v' (bs ++ fm true ds k prec) ∧ Ap w v w' v' := by
  have F : Hid (_ = _) := fm_Ap true ds k prec (by omega)  hp (by rw [hl2]; exact hd)
  have L : Hid (ds.length = n) := hl2
  have hdl : ds.length ≤ 1048576 := by omega
  clear hl2
  go_enter Try.func22, Try.ntmps22
  go_wp2_with (first
    | (at_builtin; refine wp_lit rfl (.tmp 16) (.tmp 17) rfl _ rfl rfl h0 (by simp; omega) ?_; intro v1 w1 h1)
    | (at_builtin; refine wp_lit rfl (.tmp 37) (.tmp 38) rfl _ rfl rfl h1 (by simp; omega) ?_; intro v3 w3 h3)
    | (at_builtin; refine wp_lit rfl (.tmp 43) (.tmp 44) rfl _ rfl rfl h3 (by simp [zz_length]; omega) ?_; intro v4 w4 h4)
    | (go_at_call_of 25 (v4); refine (zeros_st _ h4 (by simp [zz_length]; omega) (by omega) (by omega)).mono ?_; rintro e w5 ⟨v5, rfl, h5⟩)
    | (at_builtin; refine wp_rd rfl (.tmp 59) (.tmp 60) rfl _ _ _ ds rfl rfl h5 h5.rd.1 (by simp [zz_length]; omega) (by omega) ?_; intro v6 w6 h6)
    | (go_at_call_of 25 (v6); refine (zeros_st _ h6 (by simp [zz_length]; omega) (by omega) (by omega)).mono ?_; rintro e w7 ⟨v7, rfl, h7⟩))
  go_ret
  refine ⟨v7, rfl, own_congr h7.own (F.out.trans ?_), h7.ap⟩
  rw [zz_congr (M := prec - -(k + 1) - ds.length) (N := prec + (k + 1) - n) (by have := L.out; omega)]; simp [sg]
set_option maxHeartbeats 400000 in
theorem fix_S (v : Value) (B : Nat) (bs : List Int) (b : Nat) (k prec : Int) (w : World) (h1 : St B w v bs (some ⟨b, 0, none⟩) 0 [] w v [])
    (hl : bs.length ≤ 1048576)  (hk : -1048576 ≤ k) (hk2 : k ≤ 1048576) (hp : prec ≤ 0) (hp2 : -1048576 ≤ prec) (hpt : k + 1 < 0) :
    Calls Try.prog 22 #[v, .bool false, .slice (some ⟨b, 0, none⟩) 0 0, .int .i64 k, .int .i64 prec] w fun e w' => ∃ v', e = .returned v' ∧ Own w' B v' (bs ++ fm false [] k prec) ∧ Ap w v w' v' := by
  have F : Hid (_ = _) := fm_A false [] k prec (by omega)  hp 
  go_enter Try.func22, Try.ntmps22
  go_wp2_with (first
    | (at_builtin; refine wp_lit rfl (.tmp 37) (.tmp 38) rfl _ rfl rfl h1 (by simp; omega) ?_; intro v3 w3 h3))
  go_ret
  refine ⟨v3, rfl, own_congr h3.own (F.out.trans ?_), h3.ap⟩
  simp [sg]
set_option maxHeartbeats 400000 in
theorem fix_Sp (v : Value) (B : Nat) (bs : List Int) (b : Nat) (k prec : Int) (w : World) (h1 : St B w v bs (some ⟨b, 0, none⟩) 0 [] w v [])
    (hl : bs.length ≤ 1048576)  (hk : -1048576 ≤ k) (hk2 : k ≤ 1048576) (hp : 0 < prec) (hp2 : prec ≤ 1048576) (hd : -prec ≤ k - 0 + 1) (hpt : k + 1 < 0) :
    Calls Try.prog 22 #[v, .bool false, .slice (some ⟨b, 0, none⟩) 0 0, .int .i64 k, .int .i64 prec] w fun e w' => ∃ v', e = .returned v' ∧ Own w' B v' (bs ++ fm false [] k prec) ∧ Ap w v w' v' := by
  have F : Hid (_ = _) := fm_Ap false [] k prec (by omega)  hp (by simp; omega)
  go_enter Try.func22, Try.ntmps22
  go_wp2_with (first
    | (at_builtin; refine wp_lit rfl (.tmp 37) (.tmp 38) rfl _ rfl rfl h1 (by simp; omega) ?_; intro v3 w3 h3)
    | (at_builtin; refine wp_lit rfl (.tmp 43) (.tmp 44) rfl _ rfl rfl h3 (by simp [zz_length]; omega) ?_; intro v4 w4 h4)
    | (go_at_call_of 25 (v4); refine (zeros_st _ h4 (by simp [zz_length]; omega) (by omega) (by omega)).mono ?_; rintro e w5 ⟨v5, rfl, h5⟩)
    | (at_builtin; refine wp_rd rfl (.tmp 59) (.tmp 60) rfl _ _ _ [] rfl rfl h5 (Rd.none_of _ _ (by omega)) (by simp [zz_length]; omega) (by omega) ?_; intro v6 w6 h6)
    | (go_at_call_of 25 (v6); refine (zeros_st _ h6 (by simp [zz_length]; omega) (by omega) (by omega)).mono ?_; rintro e w7 ⟨v7, rfl, h7⟩))
  go_ret
  refine ⟨v7, rfl, own_congr h7.own (F.out.trans ?_), h7.ap⟩
  rw [zz_congr (M := prec - -(k + 1) - ([] : List Int).length) (N := prec + (k + 1)) (by simp only [List.length_nil]; omega)]; simp [sg]
set_option maxHeartbeats 400000 in
theorem fix_Sn (v : Value) (B : Nat) (bs : List Int) (b : Nat) (k prec : Int) (w : World) (h0 : St B w v bs (some ⟨b, 0, none⟩) 0 [] w v [])
    (hl : bs.length ≤ 1048576)  (hk : -1048576 ≤ k) (hk2 : k ≤ 1048576) (hp : prec ≤ 0) (hp2 : -1048576 ≤ prec) (hpt : k + 1 < 0) :
    Calls Try.prog 22 #[v, .bool true, .slice (some ⟨b, 0, none⟩) 0 0, .int .i64 k, .int .i64 prec] w fun e w' => ∃ v', e = .returned v' ∧ Own w' B v' (bs ++ fm true [] k prec) ∧ Ap w v w' v' := by
  have F : Hid (_ = _) := fm_A true [] k prec (by omega)  hp 
  go_enter Try.func22, Try.ntmps22
  go_wp2_with (first
    | (at_builtin; refine wp_lit rfl (.tmp 16) (.tmp 17) rfl _ rfl rfl h0 (by simp; omega) ?_; intro v1 w1 h1)
    | (at_builtin; refine wp_lit rfl (.tmp 37) (.tmp 38) rfl _ rfl rfl h1 (by simp; omega) ?_; intro v3 w3 h3))
  go_ret
  refine ⟨v3, rfl, own_congr h3.own (F.out.trans ?_), h3.ap⟩
  simp [sg]
set_option maxHeartbeats 400000 in
theorem fix_Snp (v : Value) (B : Nat) (bs : List Int) (b : Nat) (k prec : Int) (w : World) (h0 : St B w v bs (some ⟨b, 0, none⟩) 0 [] w v [])
    (hl : bs.length ≤ 1048576)  (hk : -1048576 ≤ k) (hk2 : k ≤ 1048576) (hp : 0 < prec) (hp2 : prec ≤ 1048576) (hd : -prec ≤ k - 0 + 1) (hpt : k + 1 < 0) :
    Calls Try.prog 22 #[v, .bool true, .slice (some ⟨b, 0, none⟩) 0 0, .int .i64 k, .int .i64 prec] w fun e w' => ∃ v', e = .returned v' ∧ Own w' B v' (bs ++ fm true [] k prec) ∧ Ap w v w' v' := by
  have F : Hid (_ = _) := fm_Ap true [] k prec (by omega)  hp (by simp; omega)
  go_enter Try.func22, Try.ntmps22
  go_wp2_with (first
    | (at_builtin; refine wp_lit rfl (.tmp 16) (.tmp 17) rfl _ rfl rfl h0 (by simp; omega) ?_; intro v1 w1 h1)
    | (at_builtin; refine wp_lit rfl (.tmp 37) (.tmp 38) rfl _ rfl rfl h1 (by simp; omega) ?_; intro v3 w3 h3)
    | (at_builtin; refine wp_lit rfl (.tmp 43) (.tmp 44) rfl _ rfl rfl h3 (by simp [zz_length]; omega) ?_; intro v4 w4 h4)
    | (go_at_call_of 25 (v4); refine (zeros_st _ h4 (by simp [zz_length]; omega) (by omega) (by omega)).mono ?_; rintro e w5 ⟨v5, rfl, h5⟩)
    | (at_builtin; refine wp_rd rfl (.tmp 59) (.tmp 60) rfl _ _ _ [] rfl rfl h5 (Rd.none_of _ _ (by omega)) (by simp [zz_length]; omega) (by omega) ?_; intro v6 w6 h6)
    | (go_at_call_of 25 (v6); refine (zeros_st _ h6 (by simp [zz_length]; omega) (by omega) (by omega)).mono ?_; rintro e w7 ⟨v7, rfl, h7⟩))
  go_ret
  refine ⟨v7, rfl, own_congr h7.own (F.out.trans ?_), h7.ap⟩
  rw [zz_congr (M := prec - -(k + 1) - ([] : List Int).length) (N := prec + (k + 1)) (by simp only [List.length_nil]; omega)]; simp [sg]
set_option maxHeartbeats 400000 in
theorem fix_M (v : Value) (B : Nat) (bs : List Int)  (k prec : Int) (w : World) (h1 : St B w v bs (none) 0 [] w v [])
    (hl : bs.length ≤ 1048576)  (hk : -1048576 ≤ k) (hk2 : k ≤ 1048576) (hp : prec ≤ 0) (hp2 : -1048576 ≤ prec) (hpt : k + 1 < 0) :
    Calls Try.prog 22 #[v, .bool false, .slice (none) 0 0, .int .i64 k, .int .i64 prec] w fun e w' => ∃ v', e = .returned v' ∧ Own w' B v' (bs ++ fm false [] k prec) ∧ Ap w v w' v' := by
  have F : Hid (_ = _) := fm_A false [] k prec (by omega)  hp 
  go_enter Try.func22, Try.ntmps22
  go_wp2_with (first
    | (at_builtin; refine wp_lit rfl (.tmp 37) (.tmp 38) rfl _ rfl rfl h1 (by simp; omega) ?_; intro v3 w3 h3))
  go_ret
  refine ⟨v3, rfl, own_congr h3.own (F.out.trans ?_), h3.ap⟩
  simp [sg]
set_option maxHeartbeats 400000 in
theorem fix_Mp (v : Value) (B : Nat) (bs : List Int)  (k prec : Int) (w : World) (h1 : St B w v bs (none) 0 [] w v [])
    (hl : bs.length ≤ 1048576)  (hk : -1048576 ≤ k) (hk2 : k ≤ 1048576) (hp : 0 < prec) (hp2 : prec ≤ 1048576) (hd : -prec ≤ k - 0 + 1) (hpt : k + 1 < 0) :
    Calls Try.prog 22 #[v, .bool false, .slice (none) 0 0, .int .i64 k, .int .i64 prec] w fun e w' => ∃ v', e = .returned v' ∧ Own w' B v' (bs ++ fm false [] k prec) ∧ Ap w v w' v' := by
  have F : Hid (_ = _) := fm_Ap false [] k prec (by omega)  hp (by simp; omega)
  go_enter Try.func22, Try.ntmps22
  go_wp2_with (first
    | (at_builtin; refine wp_lit rfl (.tmp 37) (.tmp 38) rfl _ rfl rfl h1 (by simp; omega) ?_; intro v3 w3 h3)
    | (at_builtin; refine wp_lit rfl (.tmp 43) (.tmp 44) rfl _ rfl rfl h3 (by simp [zz_length]; omega) ?_; intro v4 w4 h4)
    | (go_at_call_of 25 (v4); refine (zeros_st _ h4 (by simp [zz_length]; omega) (by omega) (by omega)).mono ?_; rintro e w5 ⟨v5, rfl, h5⟩)
    | (at_builtin; refine wp_rd rfl (.tmp 59) (.tmp 60) rfl _ _ _ [] rfl rfl h5 (Rd.none_of _ _ (by omega)) (by simp [zz_length]; omega) (by omega) ?_; intro v6 w6 h6)
    | (go_at_call_of 25 (v6); refine (zeros_st _ h6 (by simp [zz_length]; omega) (by omega) (by omega)).mono ?_; rintro e w7 ⟨v7, rfl, h7⟩))
  go_ret
  refine ⟨v7, rfl, own_congr h7.own (F.out.trans ?_), h7.ap⟩
  rw [zz_congr (M := prec - -(k + 1) - ([] : List Int).length) (N := prec + (k + 1)) (by simp only [List.length_nil]; omega)]; simp [sg]
set_option maxHeartbeats 400000 in
theorem fix_Mn (v : Value) (B : Nat) (bs : List Int)  (k prec : Int) (w : World) (h0 : St B w v bs (none) 0 [] w v [])
    (hl : bs.length ≤ 1048576)  (hk : -1048576 ≤ k) (hk2 : k ≤ 1048576) (hp : prec ≤ 0) (hp2 : -1048576 ≤ prec) (hpt : k + 1 < 0) :
    Calls Try.prog 22 #[v, .bool true, .slice (none) 0 0, .int .i64 k, .int .i64 prec] w fun e w' => ∃ v', e = .returned v' ∧ Own w' B v' (bs ++ fm true [] k prec) ∧ Ap w v w' v' := by
  have F : Hid (_ = _) := fm_A true [] k prec (by omega)  hp 
  go_enter Try.func22, Try.ntmps22
  go_wp2_with (first
    | (at_builtin; refine wp_lit rfl (.tmp 16) (.tmp 17) rfl _ rfl rfl h0 (by simp; omega) ?_; intro v1 w1 h1)
    | (at_builtin; refine wp_lit rfl (.tmp 37) (.tmp 38) rfl _ rfl rfl h1 (by simp; omega) ?_; intro v3 w3 h3))
  go_ret
  refine ⟨v3, rfl, own_congr h3.own (F.out.trans ?_), h3.ap⟩
  simp [sg]
set_option maxHeartbeats 400000 in
theorem fix_Mnp (v : Value) (B : Nat) (bs : List Int)  (k prec : Int) (w : World) (h0 : St B w v bs (none) 0 [] w v [])
    (hl : bs.length ≤ 1048576)  (hk : -1048576 ≤ k) (hk2 : k ≤ 1048576) (hp : 0 < prec) (hp2 : prec ≤ 1048576) (hd : -prec ≤ k - 0 + 1) (hpt : k + 1 < 0) :
    Calls Try.prog 22 #[v, .bool true, .slice (none) 0 0, .int .i64 k, .int .i64 prec] w fun e w' => ∃ v', e = .returned v' ∧ Own w' B v' (bs ++ fm true [] k prec) ∧ Ap w v w' v' := by
  have F : Hid (_ = _) := fm_Ap true [] k prec (by omega)  hp (by simp; omega)
  go_enter Try.func22, Try.ntmps22
  go_wp2_with (first
    | (at_builtin; refine wp_lit rfl (.tmp 16) (.tmp 17) rfl _ rfl rfl h0 (by simp; omega) ?_; intro v1 w1 h1)
    | (at_builtin; refine wp_lit rfl (.tmp 37) (.tmp 38) rfl _ rfl rfl h1 (by simp; omega) ?_; intro v3 w3 h3)
    | (at_builtin; refine wp_lit rfl (.tmp 43) (.tmp 44) rfl _ rfl rfl h3 (by simp [zz_length]; omega) ?_; intro v4 w4 h4)
    | (go_at_call_of 25 (v4); refine (zeros_st _ h4 (by simp [zz_length]; omega) (by omega) (by omega)).mono ?_; rintro e w5 ⟨v5, rfl, h5⟩)
    | (at_builtin; refine wp_rd rfl (.tmp 59) (.tmp 60) rfl _ _ _ [] rfl rfl h5 (Rd.none_of _ _ (by omega)) (by simp [zz_length]; omega) (by omega) ?_; intro v6 w6 h6)
    | (go_at_call_of 25 (v6); refine (zeros_st _ h6 (by simp [zz_length]; omega) (by omega) (by omega)).mono ?_; rintro e w7 ⟨v7, rfl, h7⟩))
  go_ret
  refine ⟨v7, rfl, own_congr h7.own (F.out.trans ?_), h7.ap⟩
  rw [zz_congr (M := prec - -(k + 1) - ([] : List Int).length) (N := prec + (k + 1)) (by simp only [List.length_nil]; omega)]; simp [sg]
set_option maxHeartbeats 400000 in
theorem fix_Z (v : Value) (B : Nat) (bs : List Int) (b n : Nat) (ds : List Int) (prec : Int) (w : World) (h1 : St B w v bs (some ⟨b, 0, none⟩) n ds w v [])
    (hl : bs.length ≤ 1048576) (hl2 : ds.length = n) (hn : n ≤ 1048576) (hp : prec ≤ 0) (hp2 : -1048576 ≤ prec) (hn0 : 0 < n) :
    Calls Try.prog 22 #[v, .bool false, .slice (some ⟨b, 0, none⟩) n n, .int .i64 (-1), .int .i64 prec] w fun e w' => ∃ v', e = .returned v' ∧ Own w' B v' (bs ++ fm false ds (-1) prec) ∧ Ap w v w' v' := by
  have F : Hid (_ = _) := fm_A false ds (-1) prec (by omega)  hp 
  have L : Hid (ds.length = n) := hl2
  have hdl : ds.length ≤ 1048576 := by omega
  clear hl2
  go_enter Try.func22, Try.ntmps22
  go_wp2_with (first
    | (at_builtin; refine wp_lit rfl (.tmp 37) (.tmp 38) rfl _ rfl rfl h1 (by simp; omega) ?_; intro v3 w3 h3))
  go_ret
  refine ⟨v3, rfl, own_congr h3.own (F.out.trans ?_), h3.ap⟩
  simp [sg]
set_option maxHeartbeats 400000 in
theorem fix_Zp (v : Value) (B : Nat) (bs : List Int) (b n : Nat) (ds : List Int) (prec : Int) (w : World) (h1 : St B w v bs (some ⟨b, 0, none⟩) n ds w v [])
    (hl : bs.length ≤ 1048576) (hl2 : ds.length = n) (hn : n ≤ 1048576) (hp : 0 < prec) (hp2 : prec ≤ 1048576) (hd : -prec ≤ (-1) - n + 1) (hn0 : 0 < n) :
    Calls Try.prog 22 #[v, .bool false, .slice (some ⟨b, 0, none⟩) n n, .int .i64 (-1), .int .i64 prec] w fun e w' => ∃ v', e = .returned v' ∧ Own w' B v' (bs ++ fm false ds (-1) prec) ∧ Ap w v w' v' := by
  have F : Hid (_ = _) := fm_Ap false ds (-1) prec (by omega)  hp (by rw [hl2]; exact hd)
  have L : Hid (ds.length = n) := hl2
  have hdl : ds.length ≤ 1048576 := by omega
  clear hl2
  go_enter Try.func22, Try.ntmps22
  go_wp2_with (first
    | (at_builtin; refine wp_lit rfl (.tmp 37) (.tmp 38) rfl _ rfl rfl h1 (by simp; omega) ?_; intro v3 w3 h3)
    | (at_builtin; refine wp_lit rfl (.tmp 43) (.tmp 44) rfl _ rfl rfl h3 (by simp [zz_length]; omega) ?_; intro v4 w4 h4)
    | (go_at_call_of 25 (v4); refine (zeros_st _ h4 (by simp [zz_length]; omega) (by omega) (by omega)).mono ?_; rintro e w5 ⟨v5, rfl, h5⟩)
    | (at_builtin; refine wp_rd rfl (.tmp 59) (.tmp 60) rfl _ _ _ ds rfl rfl h5 h5.rd.1 (by simp [zz_length]; omega) (by omega) ?_; intro v6 w6 h6)
    | (go_at_call_of 25 (v6); refine (zeros_st _ h6 (by simp [zz_length]; omega) (by omega) (by omega)).mono ?_; rintro e w7 ⟨v7, rfl, h7⟩))
  go_ret
  refine ⟨v7, rfl, own_congr h7.own (F.out.trans ?_), h7.ap⟩
  rw [zz_congr (M := prec - -(-1 + 1) - ds.length) (N := prec - n) (by have := L.out; omega)]; simp [sg, zz_0]
set_option maxHeartbeats 400000 in
theorem fix_Zn (v : Value) (B : Nat) (bs : List Int) (b n : Nat) (ds : List Int) (prec : Int) (w : World) (h0 : St B w v bs (some ⟨b, 0, none⟩) n ds w v [])
    (hl : bs.length ≤ 1048576) (hl2 : ds.length = n) (hn : n ≤ 1048576) (hp : prec ≤ 0) (hp2 : -1048576 ≤ prec) (hn0 : 0 < n) :
    Calls Try.prog 22 #[v, .bool true, .slice (some ⟨b, 0, none⟩) n n, .int .i64 (-1), .int .i64 prec] w fun e w' => ∃ v', e = .returned v' ∧ Own w' B v' (bs ++ fm true ds (-1) prec) ∧ Ap w v w' v' := by
  have F : Hid (_ = _) := fm_A true ds (-1) prec (by omega)  hp 
  have L : Hid (ds.length = n) := hl2
  have hdl : ds.length ≤ 1048576 := by omega
  clear hl2
  go_enter Try.func22, Try.ntmps22
  go_wp2_with (first
    | (at_builtin; refine wp_lit rfl (.tmp 16) (.tmp 17) rfl _ rfl rfl h0 (by simp; omega) ?_; intro v1 w1 h1)
    | (at_builtin; refine wp_lit rfl (.tmp 37) (.tmp 38) rfl _ rfl rfl h1 (by simp; omega) ?_; intro v3 w3 h3))
  go_ret
  refine ⟨v3, rfl, own_congr h3.own (F.out.trans ?_), h3.ap⟩
  simp [sg]
set_option maxHeartbeats 400000 in
theorem fix_Znp (v : Value) (B : Nat) (bs : List Int) (b n : Nat) (ds : List Int) (prec : Int) (w : World) (h0 : St B w v bs (some ⟨b, 0, none⟩) n ds w v [])
    (hl : bs.length ≤ 1048576) (hl2 : ds.length = n) (hn : n ≤ 1048576) (hp : 0 < prec) (hp2 : prec ≤ 1048576) (hd : -prec ≤ (-1) - n + 1) (hn0 : 0 < n) :
    Calls Try.prog 22 #[v, .bool true, .slice (some ⟨b, 0, none⟩) n n, .int .i64 (-1), .int .i64 prec] w fun e w' => ∃ v', e = .returned v' ∧ Own w' B v' (bs ++ fm true ds (-1) prec) ∧ Ap w v w' v' := by
  have F : Hid (_ = _) := fm_Ap true ds (-1) prec (by omega)  hp (by rw [hl2]; exact hd)
  have L : Hid (ds.length = n) := hl2
  have hdl : ds.length ≤ 1048576 := by omega
  clear hl2
  go_enter Try.func22, Try.ntmps22
  go_wp2_with (first
    | (at_builtin; refine wp_lit rfl (.tmp 16) (.tmp 17) rfl _ rfl rfl h0 (by simp; omega) ?_; intro v1 w1 h1)
    | (at_builtin; refine wp_lit rfl (.tmp 37) (.tmp 38) rfl _ rfl rfl h1 (by simp; omega) ?_; intro v3 w3 h3)
    | (at_builtin; refine wp_lit rfl (.tmp 43) (.tmp 44) rfl _ rfl rfl h3 (by simp [zz_length]; omega) ?_; intro v4 w4 h4)
    | (go_at_call_of 25 (v4); refine (zeros_st _ h4 (by simp [zz_length]; omega) (by omega) (by omega)).mono ?_; rintro e w5 ⟨v5, rfl, h5⟩)
    | (at_builtin; refine wp_rd rfl (.tmp 59) (.tmp 60) rfl _ _ _ ds rfl rfl h5 h5.rd.1 (by simp [zz_length]; omega) (by omega) ?_; intro v6 w6 h6)
    | (go_at_call_of 25 (v6); refine (zeros_st _ h6 (by simp [zz_length]; omega) (by omega) (by omega)).mono ?_; rintro e w7 ⟨v7, rfl, h7⟩))
  go_ret
  refine ⟨v7, rfl, own_congr h7.own (F.out.trans ?_), h7.ap⟩
  rw [zz_congr (M := prec - -(-1 + 1) - ds.length) (N := prec - n) (by have := L.out; omega)]; simp [sg, zz_0]
set_option maxHeartbeats 400000 in
theorem fix_T (v : Value) (B : Nat) (bs : List Int) (b : Nat) (prec : Int) (w : World) (h1 : St B w v bs (some ⟨b, 0, none⟩) 0 [] w v [])
    (hl : bs.length ≤ 1048576)  (hp : prec ≤ 0) (hp2 : -1048576 ≤ prec)  :
    Calls Try.prog 22 #[v, .bool false, .slice (some ⟨b, 0, none⟩) 0 0, .int .i64 (-1), .int .i64 prec] w fun e w' => ∃ v', e = .returned v' ∧ Own w' B v' (bs ++ fm false [] (-1) prec) ∧ Ap w v w' v' := by
  have F : Hid (_ = _) := fm_A false [] (-1) prec (by omega)  hp 
  go_enter Try.func22, Try.ntmps22
  go_wp2_with (first
    | (at_builtin; refine wp_lit rfl (.tmp 37) (.tmp 38) rfl _ rfl rfl h1 (by simp; omega) ?_; intro v3 w3 h3))
  go_ret
  refine ⟨v3, rfl, own_congr h3.own (F.out.trans ?_), h3.ap⟩
  simp [sg]
set_option maxHeartbeats 400000 in
theorem fix_Tp (v : Value) (B : Nat) (bs : List Int) (b : Nat) (prec : Int) (w : World) (h1 : St B w v bs (some ⟨b, 0, none⟩) 0 [] w v [])
    (hl : bs.length ≤ 1048576)  (hp : 0 < prec) (hp2 : prec ≤ 1048576) (hd : -prec ≤ (-1) - 0 + 1)  :
    Calls Try.prog 22 #[v, .bool false, .slice (some ⟨b, 0, none⟩) 0 0, .int .i64 (-1), .int .i64 prec] w fun e w' => ∃ v', e = .returned v' ∧ Own w' B v' (bs ++ fm false [] (-1) prec) ∧ Ap w v w' v' := by
  have F : Hid (_ = _) := fm_Ap false [] (-1) prec (by omega)  hp (by simp; omega)
  go_enter Try.func22, Try.ntmps22
  go_wp2_with (first
    | (at_builtin; refine wp_lit rfl (.tmp 37) (.tmp 38) rfl _ rfl rfl h1 (by simp; omega) ?_; intro v3 w3 h3)
    | (at_builtin; refine wp_lit rfl (.tmp 43) (.tmp 44) rfl _ rfl rfl h3 (by simp [zz_length]; omega) ?_; intro v4 w4 h4)
    | (go_at_call_of 25 (v4); refine (zeros_st _ h4 (by simp [zz_length]; omega) (by omega) (by omega)).mono ?_; rintro e w5 ⟨v5, rfl, h5⟩)
    | (at_builtin; refine wp_rd rfl (.tmp 59) (.tmp 60) rfl _ _ _ [] rfl rfl h5 (Rd.none_of _ _ (by omega)) (by simp [zz_length]; omega) (by omega) ?_; intro v6 w6 h6)
    | (go_at_call_of 25 (v6); refine (zeros_st _ h6 (by simp [zz_length]; omega) (by omega) (by omega)).mono ?_; rintro e w7 ⟨v7, rfl, h7⟩))
  go_ret
  refine ⟨v7, rfl, own_congr h7.own (F.out.trans ?_), h7.ap⟩
  simp [sg, zz_0]
set_option maxHeartbeats 400000 in
theorem fix_Tn (v : Value) (B : Nat) (bs : List Int) (b : Nat) (prec : Int) (w : World) (h0 : St B w v bs (some ⟨b, 0, none⟩) 0 [] w v [])
    (hl : bs.length ≤ 1048576)  (hp : prec ≤ 0) (hp2 : -1048576 ≤ prec)  :
    Calls Try.prog 22 #[v, .bool true, .slice (some ⟨b, 0, none⟩) 0 0, .int .i64 (-1), .int .i64 prec] w fun e w' => ∃ v', e = .returned v' ∧ Own w' B v' (bs ++ fm true [] (-1) prec) ∧ Ap w v w' v' := by
  have F : Hid (_ = _) := fm_A true [] (-1) prec (by omega)  hp 
  go_enter Try.func22, Try.ntmps22
  go_wp2_with (first
    | (at_builtin; refine wp_lit rfl (.tmp 16) (.tmp 17) rfl _ rfl rfl h0 (by simp; omega) ?_; intro v1 w1 h1)
    | (at_builtin; refine wp_lit rfl (.tmp 37) (.tmp 38) rfl _ rfl rfl h1 (by simp; omega) ?_; intro v3 w3 h3))
  go_ret
  refine ⟨v3, rfl, own_congr h3.own (F.out.trans ?_), h3.ap⟩
  simp [sg]
set_option maxHeartbeats 400000 in
theorem fix_Tnp (v : Value) (B : Nat) (bs : List Int) (b : Nat) (prec : Int) (w : World) (h0 : St B w v bs (some ⟨b, 0, none⟩) 0 [] w v [])
    (hl : bs.length ≤ 1048576)  (hp : 0 < prec) (hp2 : prec ≤ 1048576) (hd : -prec ≤ (-1) - 0 + 1)  :
    Calls Try.prog 22 #[v, .bool true, .slice (some ⟨b, 0, none⟩) 0 0, .int .i64 (-1), .int .i64 prec] w fun e w' => ∃ v', e = .returned v' ∧ Own w' B v' (bs ++ fm true [] (-1) prec) ∧ Ap w v w' v' := by
  have F : Hid (_ = _) := fm_Ap true [] (-1) prec (by omega)  hp (by simp; omega)
  go_enter Try.func22, Try.ntmps22
  go_wp2_with (first
    | (at_builtin; refine wp_lit rfl (.tmp 16) (.tmp 17) rfl _ rfl rfl h0 (by simp; omega) ?_; intro v1 w1 h1)
    | (at_builtin; refine wp_lit rfl (.tmp 37) (.tmp 38) rfl _ rfl rfl h1 (by simp; omega) ?_; intro v3 w3 h3)
    | (at_builtin; refine wp_lit rfl (.tmp 43) (.tmp 44) rfl _ rfl rfl h3 (by simp [zz_length]; omega) ?_; intro v4 w4 h4)
    | (go_at_call_of 25 (v4); refine (zeros_st _ h4 (by simp [zz_length]; omega) (by omega) (by omega)).mono ?_; rintro e w5 ⟨v5, rfl, h5⟩)
    | (at_builtin; refine wp_rd rfl (.tmp 59) (.tmp 60) rfl _ _ _ [] rfl rfl h5 (Rd.none_of _ _ (by omega)) (by simp [zz_length]; omega) (by omega) ?_; intro v6 w6 h6)
    | (go_at_call_of 25 (v6); refine (zeros_st _ h6 (by simp [zz_length]; omega) (by omega) (by omega)).mono ?_; rintro e w7 ⟨v7, rfl, h7⟩))
  go_ret
  refine ⟨v7, rfl, own_congr h7.own (F.out.trans ?_), h7.ap⟩
  simp [sg, zz_0]
set_option maxHeartbeats 400000 in
theorem fix_U (v : Value) (B : Nat) (bs : List Int)  (prec : Int) (w : World) (h1 : St B w v bs (none) 0 [] w v [])
    (hl : bs.length ≤ 1048576)  (hp : prec ≤ 0) (hp2 : -1048576 ≤ prec)  :
    Calls Try.prog 22 #[v, .bool false, .slice (none) 0 0, .int .i64 (-1), .int .i64 prec] w fun e w' => ∃ v', e = .returned v' ∧ Own w' B v' (bs ++ fm false [] (-1) prec) ∧ Ap w v w' v' := by
  have F : Hid (_ = _) := fm_A false [] (-1) prec (by omega)  hp 
  go_enter Try.func22, Try.ntmps22
  go_wp2_with (first
    | (at_builtin; refine wp_lit rfl (.tmp 37) (.tmp 38) rfl _ rfl rfl h1 (by simp; omega) ?_; intro v3 w3 h3))
  go_ret
  refine ⟨v3, rfl, own_congr h3.own (F.out.trans ?_), h3.ap⟩
  simp [sg]
set_option maxHeartbeats 400000 in
theorem fix_Up (v : Value) (B : Nat) (bs : List Int)  (prec : Int) (w : World) (h1 : St B w v bs (none) 0 [] w v [])
    (hl : bs.length ≤ 1048576)  (hp : 0 < prec) (hp2 : prec ≤ 1048576) (hd : -prec ≤ (-1) - 0 + 1)  :
    Calls Try.prog 22 #[v, .bool false, .slice (none) 0 0, .int .i64 (-1), .int .i64 prec] w fun e w' => ∃ v', e = .returned v' ∧ Own w' B v' (bs ++ fm false [] (-1) prec) ∧ Ap w v w' v' := by
  have F : Hid (_ = _) := fm_Ap false [] (-1) prec (by omega)  hp (by simp; omega)
  go_enter Try.func22, Try.ntmps22
  go_wp2_with (first
    | (at_builtin; refine wp_lit rfl (.tmp 37) (.tmp 38) rfl _ rfl rfl h1 (by simp; omega) ?_; intro v3 w3 h3)
    | (at_builtin; refine wp_lit rfl (.tmp 43) (.tmp 44) rfl _ rfl rfl h3 (by simp [zz_length]; omega) ?_; intro v4 w4 h4)
    | (go_at_call_of 25 (v4); refine (zeros_st _ h4 (by simp [zz_length]; omega) (by omega) (by omega)).mono ?_; rintro e w5 ⟨v5, rfl, h5⟩)
    | (at_builtin; refine wp_rd rfl (.tmp 59) (.tmp 60) rfl _ _ _ [] rfl rfl h5 (Rd.none_of _ _ (by omega)) (by simp [zz_length]; omega) (by omega) ?_; intro v6 w6 h6)
    | (go_at_call_of 25 (v6); refine (zeros_st _ h6 (by simp [zz_length]; omega) (by omega) (by omega)).mono ?_; rintro e w7 ⟨v7, rfl, h7⟩))
  go_ret
  refine ⟨v7, rfl, own_congr h7.own (F.out.trans ?_), h7.ap⟩
  simp [sg, zz_0]
set_option maxHeartbeats 400000 in
theorem fix_Un (v : Value) (B : Nat) (bs : List Int)  (prec : Int) (w : World) (h0 : St B w v bs (none) 0 [] w v [])
    (hl : bs.length ≤ 1048576)  (hp : prec ≤ 0) (hp2 : -1048576 ≤ prec)  :
    Calls Try.prog 22 #[v, .bool true, .slice (none) 0 0, .int .i64 (-1), .int .i64 prec] w fun e w' => ∃ v', e = .returned v' ∧ Own w' B v' (bs ++ fm true [] (-1) prec) ∧ Ap w v w' v' := by
  have F : Hid (_ = _) := fm_A true [] (-1) prec (by omega)  hp 
  go_enter Try.func22, Try.ntmps22
  go_wp2_with (first
    | (at_builtin; refine wp_lit rfl (.tmp 16) (.tmp 17) rfl _ rfl rfl h0 (by simp; omega) ?_; intro v1 w1 h1)
    | (at_builtin; refine wp_lit rfl (.tmp 37) (.tmp 38) rfl _ rfl rfl h1 (by simp; omega) ?_; intro v3 w3 h3))
  go_ret
  refine ⟨v3, rfl, own_congr h3.own (F.out.trans ?_), h3.ap⟩
  simp [sg]
set_option maxHeartbeats 400000 in
theorem fix_Unp (v : Value) (B : Nat) (bs : List Int)  (prec : Int) (w : World) (h0 : St B w v bs (none) 0 [] w v [])
    (hl : bs.length ≤ 1048576)  (hp : 0 < prec) (hp2 : prec ≤ 1048576) (hd : -prec ≤ (-1) - 0 + 1)  :
    Calls Try.prog 22 #[v, .bool true, .slice (none) 0 0, .int .i64 (-1), .int .i64 prec] w fun e w' => ∃ v', e = .returned v' ∧ Own w' B v' (bs ++ fm true [] (-1) prec) ∧ Ap w v w' v' := by
  have F : Hid (_ = _) := fm_Ap true [] (-1) prec (by omega)  hp (by simp; omega)
  go_enter Try.func22, Try.ntmps22
  go_wp2_with (first
    | (at_builtin; refine wp_lit rfl (.tmp 16) (.tmp 17) rfl _ rfl rfl h0 (by simp; omega) ?_; intro v1 w1 h1)
    | (at_builtin; refine wp_lit rfl (.tmp 37) (.tmp 38) rfl _ rfl rfl h1 (by simp; omega) ?_; intro v3 w3 h3)
    | (at_builtin; refine wp_lit rfl (.tmp 43) (.tmp 44) rfl _ rfl rfl h3 (by simp [zz_length]; omega) ?_; intro v4 w4 h4)
    | (go_at_call_of 25 (v4); refine (zeros_st _ h4 (by simp [zz_length]; omega) (by omega) (by omega)).mono ?_; rintro e w5 ⟨v5, rfl, h5⟩)
    | (at_builtin; refine wp_rd rfl (.tmp 59) (.tmp 60) rfl _ _ _ [] rfl rfl h5 (Rd.none_of _ _ (by omega)) (by simp [zz_length]; omega) (by omega) ?_; intro v6 w6 h6)
    | (go_at_call_of 25 (v6); refine (zeros_st _ h6 (by simp [zz_length]; omega) (by omega) (by omega)).mono ?_; rintro e w7 ⟨v7, rfl, h7⟩))
  go_ret
  refine ⟨v7, rfl, own_congr h7.own (F.out.trans ?_), h7.ap⟩
  simp [sg, zz_0]
end Go.Proofs.Qxb6602854a.bys

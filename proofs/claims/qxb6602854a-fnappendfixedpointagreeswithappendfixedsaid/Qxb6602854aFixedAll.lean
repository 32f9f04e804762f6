import Derived.Test.Qxb6602854aFixedA
import Derived.Test.Qxb6602854aFixedB
namespace Go.Proofs.Qxb6602854a.bys
open Go.RowKit

/-- appendFixed, WHATEVER THE CASE: the place-by-place text is appended. -/
theorem fixed_any (v : Value) (B : Nat) (bs : List Int) (neg : Bool) (a : Option Addr) (n : Nat) (ds : List Int) (k prec : Int) (w : World) (hS : St B w v bs a n ds w v [])
    (ha : (a = none ∧ n = 0) ∨ ∃ g, a = some ⟨g, 0, none⟩) (hl : bs.length ≤ 1048576) (hn : n ≤ 1048576) (hk : -1048576 ≤ k) (hk2 : k ≤ 1048576) (hp1 : -1048576 ≤ prec) (hp2 : prec ≤ 1048576) (hd : 0 < prec → -prec ≤ k - n + 1) :
    Calls Try.prog 22 #[v, .bool neg, .slice a n n, .int .i64 k, .int .i64 prec] w fun e w' => ∃ v', e = .returned v' ∧ Own w' B v' (bs ++ fm neg ds k prec) ∧ Ap w v w' v' := by
  have hl2 : ds.length = n := hS.rd.1.len
  rcases ha with ⟨rfl, rfl⟩ | ⟨b, rfl⟩
  · obtain rfl : ds = [] := List.eq_nil_of_length_eq_zero hl2

    rcases (show k + 1 < 0 ∨ k = -1 ∨ 0 < k + 1 by omega) with hpt | rfl | hpt
    · skip
      cases neg with
      | false =>
        by_cases hp : 0 < prec
        · exact fix_Mp v B bs k prec w hS hl hk hk2 hp hp2 (hd hp) hpt
        · exact fix_M v B bs k prec w hS hl hk hk2 (by omega) hp1 hpt
      | true =>
        by_cases hp : 0 < prec
        · exact fix_Mnp v B bs k prec w hS hl hk hk2 hp hp2 (hd hp) hpt
        · exact fix_Mn v B bs k prec w hS hl hk hk2 (by omega) hp1 hpt
    · skip
      cases neg with
      | false =>
        by_cases hp : 0 < prec
        · exact fix_Up v B bs prec w hS hl hp hp2 (hd hp) 
        · exact fix_U v B bs prec w hS hl (by omega) hp1 
      | true =>
        by_cases hp : 0 < prec
        · exact fix_Unp v B bs prec w hS hl hp hp2 (hd hp) 
        · exact fix_Un v B bs prec w hS hl (by omega) hp1 
    · skip
      cases neg with
      | false =>
        by_cases hp : 0 < prec
        · exact fix_Np v B bs k prec w hS hl hk hk2 hp hp2 (hd hp) hpt
        · exact fix_N v B bs k prec w hS hl hk hk2 (by omega) hp1 hpt
      | true =>
        by_cases hp : 0 < prec
        · exact fix_Nnp v B bs k prec w hS hl hk hk2 hp hp2 (hd hp) hpt
        · exact fix_Nn v B bs k prec w hS hl hk hk2 (by omega) hp1 hpt
  · rcases (show k + 1 < 0 ∨ k = -1 ∨ 0 < k + 1 by omega) with hpt | rfl | hpt
    · by_cases hn0 : 0 < n
      · skip
        cases neg with
        | false =>
          by_cases hp : 0 < prec
          · exact fix_Ap v B bs b n ds k prec w hS hl hl2 hn hk hk2 hp hp2 (hd hp) hpt hn0
          · exact fix_A v B bs b n ds k prec w hS hl hl2 hn hk hk2 (by omega) hp1 hpt hn0
        | true =>
          by_cases hp : 0 < prec
          · exact fix_Anp v B bs b n ds k prec w hS hl hl2 hn hk hk2 hp hp2 (hd hp) hpt hn0
          · exact fix_An v B bs b n ds k prec w hS hl hl2 hn hk hk2 (by omega) hp1 hpt hn0
      · obtain rfl : n = 0 := by omega
        obtain rfl : ds = [] := List.eq_nil_of_length_eq_zero hl2
        cases neg with
        | false =>
          by_cases hp : 0 < prec
          · exact fix_Sp v B bs b k prec w hS hl hk hk2 hp hp2 (hd hp) hpt
          · exact fix_S v B bs b k prec w hS hl hk hk2 (by omega) hp1 hpt
        | true =>
          by_cases hp : 0 < prec
          · exact fix_Snp v B bs b k prec w hS hl hk hk2 hp hp2 (hd hp) hpt
          · exact fix_Sn v B bs b k prec w hS hl hk hk2 (by omega) hp1 hpt
    · by_cases hn0 : 0 < n
      · skip
        cases neg with
        | false =>
          by_cases hp : 0 < prec
          · exact fix_Zp v B bs b n ds prec w hS hl hl2 hn hp hp2 (hd hp) hn0
          · exact fix_Z v B bs b n ds prec w hS hl hl2 hn (by omega) hp1 hn0
        | true =>
          by_cases hp : 0 < prec
          · exact fix_Znp v B bs b n ds prec w hS hl hl2 hn hp hp2 (hd hp) hn0
          · exact fix_Zn v B bs b n ds prec w hS hl hl2 hn (by omega) hp1 hn0
      · obtain rfl : n = 0 := by omega
        obtain rfl : ds = [] := List.eq_nil_of_length_eq_zero hl2
        cases neg with
        | false =>
          by_cases hp : 0 < prec
          · exact fix_Tp v B bs b prec w hS hl hp hp2 (hd hp) 
          · exact fix_T v B bs b prec w hS hl (by omega) hp1 
        | true =>
          by_cases hp : 0 < prec
          · exact fix_Tnp v B bs b prec w hS hl hp hp2 (hd hp) 
          · exact fix_Tn v B bs b prec w hS hl (by omega) hp1 
    · rcases (show k + 1 < n ∨ (k + 1 ≤ n ∧ (n : Int) ≤ k + 1) ∨ (n : Int) < k + 1 by omega) with hn2 | ⟨hn1, hn2⟩ | hn2
      · skip
        cases neg with
        | false =>
          by_cases hp : 0 < prec
          · exact fix_Bp v B bs b n ds k prec w hS hl hl2 hn hk hk2 hp hp2 (hd hp) hpt hn2
          · exact fix_B v B bs b n ds k prec w hS hl hl2 hn hk hk2 (by omega) hp1 hpt hn2
        | true =>
          by_cases hp : 0 < prec
          · exact fix_Bnp v B bs b n ds k prec w hS hl hl2 hn hk hk2 hp hp2 (hd hp) hpt hn2
          · exact fix_Bn v B bs b n ds k prec w hS hl hl2 hn hk hk2 (by omega) hp1 hpt hn2
      · skip
        cases neg with
        | false =>
          by_cases hp : 0 < prec
          · exact fix_Ep v B bs b n ds k prec w hS hl hl2 hn hk hk2 hp hp2 (hd hp) hpt hn1 hn2
          · exact fix_E v B bs b n ds k prec w hS hl hl2 hn hk hk2 (by omega) hp1 hpt hn1 hn2
        | true =>
          by_cases hp : 0 < prec
          · exact fix_Enp v B bs b n ds k prec w hS hl hl2 hn hk hk2 hp hp2 (hd hp) hpt hn1 hn2
          · exact fix_En v B bs b n ds k prec w hS hl hl2 hn hk hk2 (by omega) hp1 hpt hn1 hn2
      · skip
        cases neg with
        | false =>
          by_cases hp : 0 < prec
          · exact fix_Cp v B bs b n ds k prec w hS hl hl2 hn hk hk2 hp hp2 (hd hp) hpt hn2
          · exact fix_C v B bs b n ds k prec w hS hl hl2 hn hk hk2 (by omega) hp1 hpt hn2
        | true =>
          by_cases hp : 0 < prec
          · exact fix_Cnp v B bs b n ds k prec w hS hl hl2 hn hk hk2 hp hp2 (hd hp) hpt hn2
          · exact fix_Cn v B bs b n ds k prec w hS hl hl2 hn hk hk2 (by omega) hp1 hpt hn2

/-- the export -/
theorem zzfixed_any (v : Value) (B : Nat) (bs : List Int) (neg : Bool) (a : Option Addr) (n : Nat) (ds : List Int) (k prec : Int) (w : World) (hS : St B w v bs a n ds w v [])
    (ha : (a = none ∧ n = 0) ∨ ∃ g, a = some ⟨g, 0, none⟩) (hl : bs.length ≤ 1048576) (hn : n ≤ 1048576) (hk : -1048576 ≤ k) (hk2 : k ≤ 1048576) (hp1 : -1048576 ≤ prec) (hp2 : prec ≤ 1048576) (hd : 0 < prec → -prec ≤ k - n + 1) :
    Calls Try.prog 14 #[v, .bool neg, .slice a n n, .int .i64 k, .int .i64 prec] w fun e w' => ∃ v', e = .returned v' ∧ Own w' B v' (bs ++ fm neg ds k prec) ∧ Ap w v w' v' := by
  go_enter Try.func14, Try.ntmps14
  go_wp2_with (go_at_call 22; refine (fixed_any v B bs neg a n ds k prec _ hS ha hl hn hk hk2 hp1 hp2 hd).mono ?_; rintro e w' ⟨v', rfl, h1, h2⟩)
  go_ret
  exact ⟨v', rfl, h1, h2⟩
end Go.Proofs.Qxb6602854a.bys

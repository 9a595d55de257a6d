/-
  FnSizes answers true for every number of 64 bits: the walks of EncryptedSize, DecryptedSize, impl.Sizes and of the law.
  CONDITION: the listed variable errUnexpectedSize reads as the program's text lays it.
-/
import Derived.Test.YtpdpjpcfioabpaaDoorRows
import Derived.WalkKit
import Derived.ProofKit
import Derived.OpenShut
import Derived.BigQuiet
import Derived.Deep.QuietTactic
import Derived.WalkLawsBesides
import Derived.WalkSpells
import Derived.Lib.Hide
namespace Go.Proofs.YtpdpjpcfioabpaaDoor.fnSizes
open Go.ChangeShapes Go.WideShapes Go.ChangeAt Go.RowKit

/-- What a text of n bytes is sealed to. -/
def encS (n : Int) : Int := n / 65536 * 65568 + (if 0 < n % 65536 then n % 65536 + 32 else 0)
/-- What a stream of n bytes is opened to. -/
def decS (n : Int) : Int := n / 65568 * 65536 + (if 0 < n % 65568 then n % 65568 - 32 else 0)

theorem ret_u64 {a b : Int} {v : Value} (h : a = b) : Ending.returned (.tuple #[.int .u64 a, v]) = .returned (.tuple #[.int .u64 b, v]) := by rw [h]
theorem bz {W w' : World} (h : Below W.heap.size W w') {v : Value} (hc : W.cell? ⟨0, 0, none⟩ = some v) : w'.cell? ⟨0, 0, none⟩ = some v := by
  rw [h.cell (p := ⟨0, 0, none⟩) ?_]
  · exact hc
  · rcases Nat.eq_zero_or_pos W.heap.size with h0 | h0
    · unfold World.cell? at hc
      rw [Array.getElem?_eq_none (by omega)] at hc; cases hc
    · exact h0

set_option maxHeartbeats 400000 in
theorem enc_ok (n : Int) (w : World) (h0 : 0 ≤ n) (h : n ≤ 281474976710656) :
    Calls Tryd.prog 5 #[.int .u64 n] w fun e w' => e = .returned (.tuple #[.int .u64 (encS n), .nilIface]) ∧ w = w' := by
  by_cases hm : 0 < n % 65536
  · have he : Hid (n / 65536 * 65568 + (n % 65536 + 32) = encS n) := Lib.hid (by unfold encS; rw [if_pos hm])
    go_enter Tryd.func5, Tryd.ntmps5
    go_wp2
    go_ret2
    exact ⟨ret_u64 he.out, rfl⟩
  · have he : Hid (n / 65536 * 65568 = encS n) := Lib.hid (by unfold encS; rw [if_neg hm]; omega)
    go_enter Tryd.func5, Tryd.ntmps5
    go_wp2
    go_ret2
    exact ⟨ret_u64 he.out, rfl⟩

set_option maxHeartbeats 400000 in
theorem enc_no (n : Int) (s : ByteArray) (w : World) (hc : w.cell? ⟨0, 0, none⟩ = some (.string s)) (h : 281474976710656 < n) :
    Calls Tryd.prog 5 #[.int .u64 n] w fun e w' => e = .returned (.tuple #[.int .u64 0, .iface 31 (.agg #[.string s])]) ∧ Below w.heap.size w w' := by
  go_enter Tryd.func5, Tryd.ntmps5
  go_wp2
  go_quiet (fail)
  go_wp2
  go_ret2
  exact ⟨rfl, below_drewN (Below.refl _ _) _⟩
set_option maxHeartbeats 400000 in
theorem dec_ok (n : Int) (w : World) (h0 : 0 ≤ n) (h : n ≤ 281612415664128) (hr : n % 65568 = 0 ∨ 32 < n % 65568) :
    Calls Tryd.prog 6 #[.int .u64 n] w fun e w' => e = .returned (.tuple #[.int .u64 (decS n), .nilIface]) ∧ w = w' := by
  by_cases hm : 0 < n % 65568
  · have hg : 32 < n % 65568 := by omega
    clear hr
    have he : Hid (n / 65568 * 65536 + (n % 65568 - 32) = decS n) := Lib.hid (by unfold decS; rw [if_pos hm])
    go_enter Tryd.func6, Tryd.ntmps6
    go_wp2
    go_ret2
    exact ⟨ret_u64 he.out, rfl⟩
  · clear hr
    have he : Hid (n / 65568 * 65536 = decS n) := Lib.hid (by unfold decS; rw [if_neg hm]; omega)
    go_enter Tryd.func6, Tryd.ntmps6
    go_wp2
    go_ret2
    exact ⟨ret_u64 he.out, rfl⟩
set_option maxHeartbeats 400000 in
theorem dec_big (n : Int) (s : ByteArray) (w : World) (hc : w.cell? ⟨0, 0, none⟩ = some (.string s)) (h : 281612415664128 < n) :
    Calls Tryd.prog 6 #[.int .u64 n] w fun e w' => e = .returned (.tuple #[.int .u64 0, .iface 31 (.agg #[.string s])]) ∧ Below w.heap.size w w' := by
  go_enter Tryd.func6, Tryd.ntmps6
  go_wp2
  go_quiet (fail)
  go_wp2
  go_ret2
  exact ⟨rfl, below_drewN (Below.refl _ _) _⟩
set_option maxHeartbeats 400000 in
theorem dec_no (n : Int) (w : World) (h0 : 0 ≤ n) (h : n ≤ 281612415664128) (h1 : 0 < n % 65568) (h2 : n % 65568 ≤ 32) :
    Calls Tryd.prog 6 #[.int .u64 n] w fun e w' => e = .returned (.tuple #[.int .u64 0, .iface 33 (.pointer (some ⟨w.heap.size, 0, none⟩))]) ∧ Below w.heap.size w w' := by
  go_enter Tryd.func6, Tryd.ntmps6
  go_wp2
  go_ret2
  exact ⟨rfl, (Below.refl _ _).alloc (Nat.le_refl _) _⟩

set_option maxHeartbeats 400000 in
theorem sizes_eok_dok (n : Int) (w : World) (h0 : 0 ≤ n) (he : n ≤ 281474976710656) (hd : n ≤ 281612415664128) (hr : n % 65568 = 0 ∨ 32 < n % 65568) :
    Calls Tryd.prog 4 #[.int .u64 n] w fun e w' => e = .returned (.tuple #[.int .u64 (encS n), .int .u64 (decS n), .bool true, .bool true]) ∧ Below w.heap.size w w' := by
  go_enter Tryd.func4, Tryd.ntmps4
  go_wp2_with fail
  refine (enc_ok n _ h0 he).mono ?_
  rintro e w' ⟨rfl, rfl⟩
  have HG : Hid (Below w.heap.size w w) := Lib.hid (Below.refl _ _)
  go_wp2_with fail
  refine (dec_ok n _ h0 hd hr).mono ?_
  rintro e w2 ⟨rfl, hw2⟩
  subst hw2
  have HG2 : Hid (Below w.heap.size w _) := HG
  go_wp2_with fail
  go_quiet (fail)
  go_wp2
  exact bodyPost_ret (v := .tuple #[.int .u64 (encS n), .int .u64 (decS n), .bool true, .bool true]) (by simp [results, Tryd.results4, go_sem]) rfl ⟨rfl, below_drewN HG2.out _⟩

set_option maxHeartbeats 400000 in
theorem sizes_eok_dno (n : Int) (w : World) (h0 : 0 ≤ n) (he : n ≤ 281474976710656) (hd : n ≤ 281612415664128) (h1 : 0 < n % 65568) (h2 : n % 65568 ≤ 32) :
    Calls Tryd.prog 4 #[.int .u64 n] w fun e w' => e = .returned (.tuple #[.int .u64 (encS n), .int .u64 (0), .bool true, .bool false]) ∧ Below w.heap.size w w' := by
  go_enter Tryd.func4, Tryd.ntmps4
  go_wp2_with fail
  refine (enc_ok n _ h0 he).mono ?_
  rintro e w' ⟨rfl, rfl⟩
  have HG : Hid (Below w.heap.size w w) := Lib.hid (Below.refl _ _)
  go_wp2_with fail
  refine (dec_no n _ h0 hd h1 h2).mono ?_
  rintro e w2 ⟨rfl, hg2⟩
  have HG2 : Hid (Below w.heap.size w w2) := Lib.hid (HG.out.trans (hg2.mono HG.out.size)); clear hg2
  go_wp2_with fail
  go_quiet (fail)
  go_wp2
  exact bodyPost_ret (v := .tuple #[.int .u64 (encS n), .int .u64 (0), .bool true, .bool false]) (by simp [results, Tryd.results4, go_sem]) rfl ⟨rfl, below_drewN HG2.out _⟩

set_option maxHeartbeats 400000 in
theorem sizes_eno_dok (n : Int) (s : ByteArray) (w : World) (hc : w.cell? ⟨0, 0, none⟩ = some (.string s)) (h0 : 0 ≤ n) (he : 281474976710656 < n) (hd : n ≤ 281612415664128) (hr : n % 65568 = 0 ∨ 32 < n % 65568) :
    Calls Tryd.prog 4 #[.int .u64 n] w fun e w' => e = .returned (.tuple #[.int .u64 (0), .int .u64 (decS n), .bool false, .bool true]) ∧ Below w.heap.size w w' := by
  go_enter Tryd.func4, Tryd.ntmps4
  go_wp2_with fail
  refine (enc_no n s _ hc he).mono ?_
  rintro e w1 ⟨rfl, hg1⟩
  have HG := Lib.hid hg1; clear hg1
  go_wp2_with fail
  refine (dec_ok n _ h0 hd hr).mono ?_
  rintro e w2 ⟨rfl, hw2⟩
  subst hw2
  have HG2 : Hid (Below w.heap.size w _) := HG
  go_wp2_with fail
  go_quiet (fail)
  go_wp2
  exact bodyPost_ret (v := .tuple #[.int .u64 (0), .int .u64 (decS n), .bool false, .bool true]) (by simp [results, Tryd.results4, go_sem]) rfl ⟨rfl, below_drewN HG2.out _⟩

set_option maxHeartbeats 400000 in
theorem sizes_eno_dno (n : Int) (s : ByteArray) (w : World) (hc : w.cell? ⟨0, 0, none⟩ = some (.string s)) (h0 : 0 ≤ n) (he : 281474976710656 < n) (hd : n ≤ 281612415664128) (h1 : 0 < n % 65568) (h2 : n % 65568 ≤ 32) :
    Calls Tryd.prog 4 #[.int .u64 n] w fun e w' => e = .returned (.tuple #[.int .u64 (0), .int .u64 (0), .bool false, .bool false]) ∧ Below w.heap.size w w' := by
  go_enter Tryd.func4, Tryd.ntmps4
  go_wp2_with fail
  refine (enc_no n s _ hc he).mono ?_
  rintro e w1 ⟨rfl, hg1⟩
  have HG := Lib.hid hg1; clear hg1
  go_wp2_with fail
  refine (dec_no n _ h0 hd h1 h2).mono ?_
  rintro e w2 ⟨rfl, hg2⟩
  have HG2 : Hid (Below w.heap.size w w2) := Lib.hid (HG.out.trans (hg2.mono HG.out.size)); clear hg2
  go_wp2_with fail
  go_quiet (fail)
  go_wp2
  exact bodyPost_ret (v := .tuple #[.int .u64 (0), .int .u64 (0), .bool false, .bool false]) (by simp [results, Tryd.results4, go_sem]) rfl ⟨rfl, below_drewN HG2.out _⟩

set_option maxHeartbeats 400000 in
theorem sizes_eno_dbig (n : Int) (s : ByteArray) (w : World) (hc : w.cell? ⟨0, 0, none⟩ = some (.string s)) (he : 281474976710656 < n) (hd : 281612415664128 < n) :
    Calls Tryd.prog 4 #[.int .u64 n] w fun e w' => e = .returned (.tuple #[.int .u64 (0), .int .u64 (0), .bool false, .bool false]) ∧ Below w.heap.size w w' := by
  go_enter Tryd.func4, Tryd.ntmps4
  go_wp2_with fail
  refine (enc_no n s _ hc he).mono ?_
  rintro e w1 ⟨rfl, hg1⟩
  have HG := Lib.hid hg1; clear hg1
  go_wp2_with fail
  refine (dec_big n s _ (bz HG.out hc) hd).mono ?_
  rintro e w2 ⟨rfl, hg2⟩
  have HG2 : Hid (Below w.heap.size w w2) := Lib.hid (HG.out.trans (hg2.mono HG.out.size)); clear hg2
  go_wp2_with fail
  go_quiet (fail)
  go_wp2
  exact bodyPost_ret (v := .tuple #[.int .u64 (0), .int .u64 (0), .bool false, .bool false]) (by simp [results, Tryd.results4, go_sem]) rfl ⟨rfl, below_drewN HG2.out _⟩

set_option maxHeartbeats 400000 in
theorem law_eok_dok0 (n : Int) (w : World) (h0 : 0 ≤ n) (hb : n < 18446744073709551616) (he : n ≤ 281474976710656) (hd : n ≤ 281612415664128) (hr : n % 65568 = 0) :
    Calls Tryd.prog 3 #[.int .u64 n] w fun e w' => e = .returned (.bool true) ∧ Below w.heap.size w w' := by
  have e1 : (encS n != n + (n + 65535) / 65536 * 32) = false := by
    simp only [bne_eq_false_iff_eq]
    unfold encS
    split <;> omega
  have hr' : Hid (n % 65568 = 0) := Lib.hid hr
  have hrb : (n % 65568 == 0) = true := by rw [beq_iff_eq]; exact hr
  have hrg : ¬ 0 < n % 65568 := by omega
  have e2 : (decS n == n / 65568 * 65536) = true := by
    rw [beq_iff_eq]
    unfold decS
    rw [if_neg hrg]; omega
  clear hr
  go_enter Tryd.func3, Tryd.ntmps3
  go_wp2_with fail
  refine (sizes_eok_dok n _ h0 he hd (Or.inl hr'.out)).mono ?_
  rintro e w1 ⟨rfl, hg1⟩
  have HG := Lib.hid hg1; clear hg1
  go_wp2
  all_goals
    go_ret
    exact ⟨rfl, HG.out⟩

set_option maxHeartbeats 400000 in
theorem law_eok_dok1 (n : Int) (w : World) (h0 : 0 ≤ n) (hb : n < 18446744073709551616) (he : n ≤ 281474976710656) (hd : n ≤ 281612415664128) (hr : 32 < n % 65568) :
    Calls Tryd.prog 3 #[.int .u64 n] w fun e w' => e = .returned (.bool true) ∧ Below w.heap.size w w' := by
  have e1 : (encS n != n + (n + 65535) / 65536 * 32) = false := by
    simp only [bne_eq_false_iff_eq]
    unfold encS
    split <;> omega
  have hrb : (n % 65568 == 0) = false := by rw [beq_eq_false_iff_ne]; omega
  have hrg : 0 < n % 65568 := by omega
  have e2 : (decS n == n / 65568 * 65536 + (n % 65568 - 32)) = true := by
    rw [beq_iff_eq]
    unfold decS
    rw [if_pos hrg]
  go_enter Tryd.func3, Tryd.ntmps3
  go_wp2_with fail
  refine (sizes_eok_dok n _ h0 he hd (Or.inr hr)).mono ?_
  rintro e w1 ⟨rfl, hg1⟩
  have HG := Lib.hid hg1; clear hg1
  go_wp2
  all_goals
    go_ret
    exact ⟨rfl, HG.out⟩

set_option maxHeartbeats 400000 in
theorem law_eok_dno (n : Int) (w : World) (h0 : 0 ≤ n) (hb : n < 18446744073709551616) (he : n ≤ 281474976710656) (hd : n ≤ 281612415664128) (h1 : 0 < n % 65568) (h2 : n % 65568 ≤ 32) :
    Calls Tryd.prog 3 #[.int .u64 n] w fun e w' => e = .returned (.bool true) ∧ Below w.heap.size w w' := by
  have e1 : (encS n != n + (n + 65535) / 65536 * 32) = false := by
    simp only [bne_eq_false_iff_eq]
    unfold encS
    split <;> omega
  have hrb : (n % 65568 == 0) = false := by rw [beq_eq_false_iff_ne]; omega
  go_enter Tryd.func3, Tryd.ntmps3
  go_wp2_with fail
  refine (sizes_eok_dno n _ h0 he hd h1 h2).mono ?_
  rintro e w1 ⟨rfl, hg1⟩
  have HG := Lib.hid hg1; clear hg1
  go_wp2
  all_goals
    go_ret
    exact ⟨rfl, HG.out⟩

set_option maxHeartbeats 400000 in
theorem law_eno_dok0 (n : Int) (s : ByteArray) (w : World) (hc : w.cell? ⟨0, 0, none⟩ = some (.string s)) (h0 : 0 ≤ n) (hb : n < 18446744073709551616) (he : 281474976710656 < n) (hd : n ≤ 281612415664128) (hr : n % 65568 = 0) :
    Calls Tryd.prog 3 #[.int .u64 n] w fun e w' => e = .returned (.bool true) ∧ Below w.heap.size w w' := by
  have hr' : Hid (n % 65568 = 0) := Lib.hid hr
  have hrb : (n % 65568 == 0) = true := by rw [beq_iff_eq]; exact hr
  have hrg : ¬ 0 < n % 65568 := by omega
  have e2 : (decS n == n / 65568 * 65536) = true := by
    rw [beq_iff_eq]
    unfold decS
    rw [if_neg hrg]; omega
  clear hr
  go_enter Tryd.func3, Tryd.ntmps3
  go_wp2_with fail
  refine (sizes_eno_dok n s _ hc h0 he hd (Or.inl hr'.out)).mono ?_
  rintro e w1 ⟨rfl, hg1⟩
  have HG := Lib.hid hg1; clear hg1
  go_wp2
  all_goals
    go_ret
    exact ⟨rfl, HG.out⟩

set_option maxHeartbeats 400000 in
theorem law_eno_dok1 (n : Int) (s : ByteArray) (w : World) (hc : w.cell? ⟨0, 0, none⟩ = some (.string s)) (h0 : 0 ≤ n) (hb : n < 18446744073709551616) (he : 281474976710656 < n) (hd : n ≤ 281612415664128) (hr : 32 < n % 65568) :
    Calls Tryd.prog 3 #[.int .u64 n] w fun e w' => e = .returned (.bool true) ∧ Below w.heap.size w w' := by
  have hrb : (n % 65568 == 0) = false := by rw [beq_eq_false_iff_ne]; omega
  have hrg : 0 < n % 65568 := by omega
  have e2 : (decS n == n / 65568 * 65536 + (n % 65568 - 32)) = true := by
    rw [beq_iff_eq]
    unfold decS
    rw [if_pos hrg]
  go_enter Tryd.func3, Tryd.ntmps3
  go_wp2_with fail
  refine (sizes_eno_dok n s _ hc h0 he hd (Or.inr hr)).mono ?_
  rintro e w1 ⟨rfl, hg1⟩
  have HG := Lib.hid hg1; clear hg1
  go_wp2
  all_goals
    go_ret
    exact ⟨rfl, HG.out⟩

set_option maxHeartbeats 400000 in
theorem law_eno_dno (n : Int) (s : ByteArray) (w : World) (hc : w.cell? ⟨0, 0, none⟩ = some (.string s)) (h0 : 0 ≤ n) (hb : n < 18446744073709551616) (he : 281474976710656 < n) (hd : n ≤ 281612415664128) (h1 : 0 < n % 65568) (h2 : n % 65568 ≤ 32) :
    Calls Tryd.prog 3 #[.int .u64 n] w fun e w' => e = .returned (.bool true) ∧ Below w.heap.size w w' := by
  have hrb : (n % 65568 == 0) = false := by rw [beq_eq_false_iff_ne]; omega
  go_enter Tryd.func3, Tryd.ntmps3
  go_wp2_with fail
  refine (sizes_eno_dno n s _ hc h0 he hd h1 h2).mono ?_
  rintro e w1 ⟨rfl, hg1⟩
  have HG := Lib.hid hg1; clear hg1
  go_wp2
  all_goals
    go_ret
    exact ⟨rfl, HG.out⟩

set_option maxHeartbeats 400000 in
theorem law_eno_dbig (n : Int) (s : ByteArray) (w : World) (hc : w.cell? ⟨0, 0, none⟩ = some (.string s)) (h0 : 0 ≤ n) (hb : n < 18446744073709551616) (he : 281474976710656 < n) (hd : 281612415664128 < n) :
    Calls Tryd.prog 3 #[.int .u64 n] w fun e w' => e = .returned (.bool true) ∧ Below w.heap.size w w' := by
  go_enter Tryd.func3, Tryd.ntmps3
  go_wp2_with fail
  refine (sizes_eno_dbig n s _ hc he hd).mono ?_
  rintro e w1 ⟨rfl, hg1⟩
  have HG := Lib.hid hg1; clear hg1
  go_wp2
  all_goals
    go_ret
    exact ⟨rfl, HG.out⟩

/-- THE LAW, at every number. -/
theorem law_any (n : Int) (s : ByteArray) (w : World) (hc : w.cell? ⟨0, 0, none⟩ = some (.string s)) (h0 : 0 ≤ n) (hb : n < 18446744073709551616) :
    Calls Tryd.prog 3 #[.int .u64 n] w fun e w' => e = .returned (.bool true) ∧ Below w.heap.size w w' := by
  by_cases he : n ≤ 281474976710656
  · have hd : n ≤ 281612415664128 := by omega
    by_cases hr : n % 65568 = 0
    · exact law_eok_dok0 n w h0 hb he hd hr
    by_cases hs : 32 < n % 65568
    · exact law_eok_dok1 n w h0 hb he hd hs
    · exact law_eok_dno n w h0 hb he hd (by omega) (by omega)
  · have he' : 281474976710656 < n := by omega
    by_cases hd : n ≤ 281612415664128
    · by_cases hr : n % 65568 = 0
      · exact law_eno_dok0 n s w hc h0 hb he' hd hr
      by_cases hs : 32 < n % 65568
      · exact law_eno_dok1 n s w hc h0 hb he' hd hs
      · exact law_eno_dno n s w hc h0 hb he' hd (by omega) (by omega)
    · exact law_eno_dbig n s w hc h0 hb he' (by omega)
end Go.Proofs.YtpdpjpcfioabpaaDoor.fnSizes

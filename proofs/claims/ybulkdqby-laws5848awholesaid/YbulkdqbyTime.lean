import Derived.Test.YbulkdqbyRows
import Derived.WalkKit
import Derived.WalkLawsBesides
import Derived.WalkSpells
import Derived.Deep.QuietTactic
import Derived.BigQuiet
import Derived.WalkSmall
namespace Go.Proofs.Ybulkdqby
open Go.RowKit

/-- Doubled, stopping at the greatest Duration. -/
def gr (t : Int) : Int := if 4611686018427387904 ≤ t then 9223372036854775807 else wrap64 (t + t)

set_option maxHeartbeats 400000 in
theorem grown_any (t : Int) (w : World) : Calls Yba.prog 11 #[.int .i64 t] w fun e w' => e = .returned (.int .i64 (gr t)) ∧ w' = w := by
  by_cases h : 4611686018427387904 ≤ t
  · have hg : gr t = 9223372036854775807 := by rw [gr, if_pos h]
    rw [hg]
    have h2 : decide (4611686018427387903 < t) = true := by simp; omega
    clear hg h
    go_enter Yba.func11, Yba.ntmps11
    go_wp2
    go_ret
    exact ⟨rfl, rfl⟩
  · have hg : gr t = wrap64 (2 * t) := by rw [gr, if_neg h]; congr 1; omega
    rw [hg]
    have h2 : decide (4611686018427387903 < t) = false := by simp; omega
    clear hg h
    go_enter Yba.func11, Yba.ntmps11
    go_wp2
    go_ret
    exact ⟨rfl, rfl⟩
set_option maxHeartbeats 400000 in
theorem agrow_any (t : Int) (w : World) : Calls Yba.prog 7 #[.int .i64 t] w fun e w' => e = .returned (.int .i64 (gr t)) ∧ w' = w := by
  by_cases h : 4611686018427387904 ≤ t
  · have hg : gr t = 9223372036854775807 := by rw [gr, if_pos h]
    rw [hg]
    have h2 : decide (4611686018427387904 ≤ t) = true := by simpa using h
    clear hg h
    go_enter Yba.func7, Yba.ntmps7
    go_wp2
    go_ret
    exact ⟨rfl, rfl⟩
  · have hg : gr t = wrap64 (t + t) := by rw [gr, if_neg h]
    rw [hg]
    have h2 : decide (4611686018427387904 ≤ t) = false := by simpa using h
    clear hg h
    go_enter Yba.func7, Yba.ntmps7
    go_wp2
    go_ret
    exact ⟨rfl, rfl⟩

theorem high_clear (x : Int) (h0 : 0 ≤ x) (h1 : x < 1000000000) : (bits BinOp.and IntKind.u64 x 9223372036854775808 != 0) = false := by
  obtain ⟨a, rfl⟩ := Int.eq_ofNat_of_zero_le h0
  have e : bits BinOp.and IntKind.u64 (a : Int) ((9223372036854775808 : Nat) : Int) = ((a &&& 9223372036854775808 : Nat) : Int) := bits_and_u64_nat a 9223372036854775808 (by omega) (by omega)
  have z : a &&& 9223372036854775808 = 0 := by
    apply Nat.eq_of_testBit_eq
    intro i
    rw [Nat.testBit_and, show (9223372036854775808 : Nat) = 2 ^ 63 from rfl, Nat.testBit_two_pow, Nat.zero_testBit]
    by_cases hi : 63 = i
    · subst hi
      have : a.testBit 63 = false := Nat.testBit_lt_two_pow (by omega)
      simp [this]
    · simp [hi]
  rw [z] at e
  have e' : bits BinOp.and IntKind.u64 (a : Int) 9223372036854775808 = 0 := e
  rw [e']
  rfl
theorem or_zero (x : Int) (h0 : 0 ≤ x) (h1 : x < 1000000000) : bits BinOp.or IntKind.u64 0 x = x := by
  obtain ⟨a, rfl⟩ := Int.eq_ofNat_of_zero_le h0
  have e : bits BinOp.or IntKind.u64 ((0 : Nat) : Int) (a : Int) = ((0 ||| a : Nat) : Int) := bits_or_u64_nat 0 a (by omega) (by omega)
  rw [Nat.zero_or] at e
  exact e
theorem nsec_mask : bits BinOp.and IntKind.u64 0 1073741823 = 0 := by decide +kernel
theorem clear_mask : bits BinOp.andNot IntKind.u64 0 1073741823 = 0 := by decide +kernel
theorem rem_bounds (d : Int) : -1000000000 < d.tmod 1000000000 ∧ d.tmod 1000000000 < 1000000000 := by
  have h1 := Int.tmod_lt_of_pos d (show (0 : Int) < 1000000000 by omega)
  have h2 := Int.lt_tmod_of_pos d (show (0 : Int) < 1000000000 by omega)
  omega

theorem quo_bounds (d : Int) (hd0 : -9223372036854775808 ≤ d) (hd1 : d ≤ 9223372036854775807) : -9223372037 ≤ d.tdiv 1000000000 ∧ d.tdiv 1000000000 ≤ 9223372037 := by
  have h := Int.mul_tdiv_add_tmod d 1000000000
  have r := rem_bounds d
  omega

set_option maxHeartbeats 400000 in
set_option maxRecDepth 100000 in
/-- time.Time{}.Add(d): some time without a monotonic reading; two new blocks. -/
theorem add_time (d : Int) (w : World) (hd0 : -9223372036854775808 ≤ d) (hd1 : d ≤ 9223372036854775807) : Calls Yba.prog 10 #[.agg #[.int .u64 0, .int .i64 0, .pointer none], .int .i64 d] w fun e w' => ∃ x y o1 o2, e = .returned (.agg #[.int .u64 x, .int .i64 y, .pointer none]) ∧ w' = (w.alloc o1).alloc o2 := by
  obtain ⟨r0, r1⟩ := rem_bounds d
  obtain ⟨q0, q1⟩ := quo_bounds d hd0 hd1
  have m1 := nsec_mask
  have m2 := clear_mask
  by_cases hr : 0 ≤ d.tmod 1000000000
  · have hh := high_clear (d.tmod 1000000000) hr r1
    have ho := or_zero (d.tmod 1000000000) hr r1
    go_enter Yba.func10, Yba.ntmps10
    go_wp2
    go_end0
    go_wp2
    exact bodyPost_ret (v := .agg #[.int .u64 (d.tmod 1000000000), .int .i64 (d.tdiv 1000000000), .pointer none]) (by simp [results, Yba.results10, go_sem]) rfl ⟨_, _, _, _, rfl, rfl⟩
  · have hr' : 0 ≤ d.tmod 1000000000 + 1000000000 := by omega
    have hh := high_clear (d.tmod 1000000000 + 1000000000) hr' (by omega)
    have ho := or_zero (d.tmod 1000000000 + 1000000000) hr' (by omega)
    go_enter Yba.func10, Yba.ntmps10
    go_wp2
    go_end0
    go_wp2
    exact bodyPost_ret (v := .agg #[.int .u64 (d.tmod 1000000000 + 1000000000), .int .i64 (d.tdiv 1000000000 - 1), .pointer none]) (by simp [results, Yba.results10, go_sem]) rfl ⟨_, _, _, _, rfl, rfl⟩

set_option maxHeartbeats 400000 in
set_option maxRecDepth 100000 in
/-- 'zzs5848aat': three new blocks. -/
theorem at_time (d : Int) (w : World) (hd0 : -9223372036854775808 ≤ d) (hd1 : d ≤ 9223372036854775807) : Calls Yba.prog 5 #[.int .i64 d] w fun e w' => ∃ x y o1 o2 o3, e = .returned (.agg #[.int .u64 x, .int .i64 y, .pointer none]) ∧ w' = ((w.alloc o1).alloc o2).alloc o3 := by
  go_enter Yba.func5, Yba.ntmps5
  go_wp2_with fail
  refine (add_time d _ hd0 hd1).mono ?_
  rintro e w' ⟨x, y, o1, o2, rfl, rfl⟩
  go_wp2
  exact bodyPost_ret (v := .agg #[.int .u64 x, .int .i64 y, .pointer none]) (by simp [results, Yba.results5, go_sem]) rfl ⟨_, _, _, _, _, rfl, rfl⟩
end Go.Proofs.Ybulkdqby

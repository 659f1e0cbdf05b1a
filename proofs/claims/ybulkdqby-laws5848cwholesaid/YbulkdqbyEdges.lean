import Derived.Test.YbulkdqbyLaw
namespace Go.Proofs.Ybulkdqby
open Go.RowKit

set_option maxHeartbeats 400000 in
set_option maxRecDepth 100000 in
theorem law_big0 (a0 a1 : Option Addr) (n0 n1 c0 c1 : Nat) (k : Int) (w : World) (h0 : 1048576 < n0) :
    Calls Yba.prog 4 #[.slice a0 n0 c0, .slice a1 n1 c1, .int .u64 k] w fun e w' => e = .returned (.bool true) ∧ Below w.heap.size w w' := by
  have hd0 : decide ((1048576 : Int) < (n0 : Int)) = true := by simp; omega
  go_enter Yba.func4, Yba.ntmps4
  go_wp2
  go_ret
  exact ⟨rfl, Below.refl _ _⟩
set_option maxHeartbeats 400000 in
set_option maxRecDepth 100000 in
theorem law_big1 (a0 a1 : Option Addr) (n0 n1 c0 c1 : Nat) (k : Int) (w : World) (h0 : n0 ≤ 1048576) (h1 : 1048576 < n1) :
    Calls Yba.prog 4 #[.slice a0 n0 c0, .slice a1 n1 c1, .int .u64 k] w fun e w' => e = .returned (.bool true) ∧ Below w.heap.size w w' := by
  have hd0 : decide ((1048576 : Int) < (n0 : Int)) = false := by simp; omega
  have hd1 : decide ((1048576 : Int) < (n1 : Int)) = true := by simp; omega
  go_enter Yba.func4, Yba.ntmps4
  go_wp2
  go_ret
  exact ⟨rfl, Below.refl _ _⟩
set_option maxHeartbeats 400000 in
set_option maxRecDepth 100000 in
theorem law_zero (a0 a1 : Option Addr) (n0 n1 c0 c1 : Nat) (w : World) (h0 : n0 ≤ 1048576) (h1 : n1 ≤ 1048576) :
    Calls Yba.prog 4 #[.slice a0 n0 c0, .slice a1 n1 c1, .int .u64 0] w fun e w' => e = .returned (.bool true) ∧ Below w.heap.size w w' := by
  have hd0 : decide ((1048576 : Int) < (n0 : Int)) = false := by simp; omega
  have hd1 : decide ((1048576 : Int) < (n1 : Int)) = false := by simp; omega
  go_enter Yba.func4, Yba.ntmps4
  go_wp2
  go_ret
  exact ⟨rfl, Below.refl _ _⟩
end Go.Proofs.Ybulkdqby

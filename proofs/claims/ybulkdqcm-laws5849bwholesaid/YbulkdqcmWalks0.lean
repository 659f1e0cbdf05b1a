import Derived.Test.YbulkdqcmFacts
import Derived.Deep.LoopGhost
import Derived.Deep.QuietTactic
import Derived.BigQuiet
import Derived.WalkSmall
namespace Go.Proofs.Ybulkdqcm
open Go.RowKit

set_option maxHeartbeats 400000 in
set_option maxRecDepth 100000 in
theorem walk_big (a : Option Addr) (n cap : Nat) (a1 : Int) (a2 : Bool) (w : World) (hle : 1048576 < n) :
    Calls Yba.prog 3 #[.slice a n cap, .int .i64 a1, .bool a2] w fun e w' => e = .returned (.bool true) ∧ Below w.heap.size w w' := by
  have hd : decide ((1048576 : Int) < (n : Int)) = true := by simp; omega
  go_enter Yba.func3, Yba.ntmps3
  go_wp2
  go_ret
  exact ⟨rfl, Below.refl _ _⟩

set_option maxHeartbeats 1000000 in
set_option maxRecDepth 100000 in
theorem walk_nil (cap : Nat) (a1 : Int) (a2 : Bool) (w : World) :
    Calls Yba.prog 3 #[.slice none 0 cap, .int .i64 a1, .bool a2] w fun e w' => e = .returned (.bool true) ∧ Below w.heap.size w w' := by
  have e22 := fun (w : World) (a : Option Addr) (l c : Nat) => Lib.run_eql_slice_nil (P := Yba.prog) w 22 3 a l c 0 0 Yba.underlying22
  cases a2
  all_goals
    go_enter Yba.func3, Yba.ntmps3
    go_wp2_with fail
    refine (passed_none w.heap.size none 0 a1 _ (by rw [World.cell?_alloc_at _ _ _ _ rfl]; rfl)).mono ?_
    rintro e w' ⟨rfl, rfl⟩
    go_wp2
    go_quiet (fail)
    go_wp2
    go_loopg [12] 0 (fun g i wr => i = .int .i64 0 ∧ Hid (Below w.heap.size w wr) ∧ wr.cell? ⟨w.heap.size, 0, none⟩ = some (.slice none 0 0))
    case atStart => exact ⟨rfl, below_drewN ((Below.refl _ _).alloc (Nat.le_refl _) _) _, by rw [World.cell?_drewN, World.cell?_alloc_at _ _ _ _ rfl]; rfl⟩
    case round =>
      obtain ⟨rfl, HB, hc⟩ := hrel
      go_wp2
      go_ret
      exact ⟨rfl, HB.out⟩

set_option maxHeartbeats 1000000 in
set_option maxRecDepth 100000 in
theorem walk_empty (x : Addr) (cap : Nat) (a1 : Int) (a2 : Bool) (w : World) :
    Calls Yba.prog 3 #[.slice (some x) 0 cap, .int .i64 a1, .bool a2] w fun e w' => e = .returned (.bool true) ∧ Below w.heap.size w w' := by
  have e22 := fun (w : World) (a : Option Addr) (l c : Nat) => Lib.run_eql_slice_nil (P := Yba.prog) w 22 3 a l c 0 0 Yba.underlying22
  have hmk : ∀ w : World, (Instr.makeSlice 22 (.int .i64 0) (.int .i64 0)).run Yba.prog w = .ok (.slice (some ⟨w.heap.size, 0, none⟩) 0 0) (w.alloc (.cells (madeCells #[.int .i64 0] 0) 3)) := fun w => run_make_row' (P := Yba.prog) 22 3 (.int .i64 0) 8 Yba.underlying22 info3 rfl .i64 .i64 0 (by omega) (by omega) w
  have hcp : ∀ (W : World) (y : Addr), (Builtin.copy_ #[22, 22] 3 #[.slice (some y) 0 0, .slice (some x) 0 cap]).run Yba.prog W = .ok (goInt 0) W := fun W y => run_copy_none (P := Yba.prog) W 22 22 3 3 (some y) (some x) 0 0 0 cap Yba.underlying22 size3 rfl
  cases a2
  all_goals
    go_enter Yba.func3, Yba.ntmps3
    go_wp2_with fail
    refine (passed_none w.heap.size (some ⟨w.heap.size + 1, 0, none⟩) 0 a1 _ (by rw [World.cell?_alloc_past _ _ _ (by simp), World.cell?_alloc_at _ _ _ _ rfl]; rfl)).mono ?_
    rintro e w' ⟨rfl, rfl⟩
    go_wp2
    go_quiet (fail)
    go_wp2
    go_loopg [12] 0 (fun g i wr => i = .int .i64 0 ∧ Hid (Below w.heap.size w wr) ∧ wr.cell? ⟨w.heap.size, 0, none⟩ = some (.slice (some ⟨w.heap.size + 1, 0, none⟩) 0 0))
    case atStart => exact ⟨rfl, below_drewN (((Below.refl _ _).alloc (Nat.le_refl _) _).alloc (by simp) _) _, by rw [World.cell?_drewN, World.cell?_alloc_past _ _ _ (by simp), World.cell?_alloc_at _ _ _ _ rfl]; rfl⟩
    case round =>
      obtain ⟨rfl, HB, hc⟩ := hrel
      go_wp2
      go_ret
      exact ⟨rfl, HB.out⟩
end Go.Proofs.Ybulkdqcm

import Derived.Test.YbulkdqbyTime
import Derived.Deep.QuietTactic
import Derived.Laws.Rows
import Derived.WalkSmall
namespace Go.Proofs.Ybulkdqby
open Go.RowKit

/-- The 23 cells of a watch. -/
def rowW (pe tm f x1 y1 : Int) (su : Bool) (pl lr ln x2 y2 ti : Int) (lo : Bool) (x3 y3 x4 y4 : Int) (he : Bool) : Array Value :=
  #[.int .u32 pe, .int .i64 tm, .int .i64 f, .int .u64 x1, .int .i64 y1, .pointer none, .bool su, .int .i64 pl, .int .u32 pe, .int .u64 lr, .int .u64 ln, .int .u64 x2, .int .i64 y2, .pointer none, .int .i64 ti, .bool lo, .int .u64 x3, .int .i64 y3, .pointer none, .int .u64 x4, .int .i64 y4, .pointer none, .bool he]

section
variable {pe tm f x1 y1 : Int} {su : Bool} {pl lr ln x2 y2 ti : Int} {lo : Bool} {x3 y3 x4 y4 : Int} {he : Bool}
theorem size_rowW : (rowW pe tm f x1 y1 su pl lr ln x2 y2 ti lo x3 y3 x4 y4 he).size = 23 := rfl
theorem one_rowW : (rowW pe tm f x1 y1 su pl lr ln x2 y2 ti lo x3 y3 x4 y4 he).all (·.oneCell') = true := by kernel_rfl
theorem info36 : (Yba.prog.info? 36).map (·.size) = some 23 := by kernel_rfl
theorem set_tm (v : Int) : (rowW pe tm f x1 y1 su pl lr ln x2 y2 ti lo x3 y3 x4 y4 he).setIfInBounds 1 (.int .i64 v) = rowW pe v f x1 y1 su pl lr ln x2 y2 ti lo x3 y3 x4 y4 he := rfl
theorem set_f (v : Int) : (rowW pe tm f x1 y1 su pl lr ln x2 y2 ti lo x3 y3 x4 y4 he).setIfInBounds 2 (.int .i64 v) = rowW pe tm v x1 y1 su pl lr ln x2 y2 ti lo x3 y3 x4 y4 he := rfl
theorem set_ti (v : Int) : (rowW pe tm f x1 y1 su pl lr ln x2 y2 ti lo x3 y3 x4 y4 he).setIfInBounds 14 (.int .i64 v) = rowW pe tm f x1 y1 su pl lr ln x2 y2 v lo x3 y3 x4 y4 he := rfl
theorem set_lo (v : Bool) : (rowW pe tm f x1 y1 su pl lr ln x2 y2 ti lo x3 y3 x4 y4 he).setIfInBounds 15 (.bool v) = rowW pe tm f x1 y1 su pl lr ln x2 y2 ti v x3 y3 x4 y4 he := rfl
theorem set_x3 (v : Int) : (rowW pe tm f x1 y1 su pl lr ln x2 y2 ti lo x3 y3 x4 y4 he).setIfInBounds 16 (.int .u64 v) = rowW pe tm f x1 y1 su pl lr ln x2 y2 ti lo v y3 x4 y4 he := rfl
theorem set_y3 (v : Int) : (rowW pe tm f x1 y1 su pl lr ln x2 y2 ti lo x3 y3 x4 y4 he).setIfInBounds 17 (.int .i64 v) = rowW pe tm f x1 y1 su pl lr ln x2 y2 ti lo x3 v x4 y4 he := rfl
theorem set_z3 : (rowW pe tm f x1 y1 su pl lr ln x2 y2 ti lo x3 y3 x4 y4 he).setIfInBounds 18 (.pointer none) = rowW pe tm f x1 y1 su pl lr ln x2 y2 ti lo x3 y3 x4 y4 he := rfl
theorem set_x4 (v : Int) : (rowW pe tm f x1 y1 su pl lr ln x2 y2 ti lo x3 y3 x4 y4 he).setIfInBounds 19 (.int .u64 v) = rowW pe tm f x1 y1 su pl lr ln x2 y2 ti lo x3 y3 v y4 he := rfl
theorem set_y4 (v : Int) : (rowW pe tm f x1 y1 su pl lr ln x2 y2 ti lo x3 y3 x4 y4 he).setIfInBounds 20 (.int .i64 v) = rowW pe tm f x1 y1 su pl lr ln x2 y2 ti lo x3 y3 x4 v he := rfl
theorem set_z4 : (rowW pe tm f x1 y1 su pl lr ln x2 y2 ti lo x3 y3 x4 y4 he).setIfInBounds 21 (.pointer none) = rowW pe tm f x1 y1 su pl lr ln x2 y2 ti lo x3 y3 x4 y4 he := rfl
end

/-- The block g holds this row; all else below is as it was. -/
def Mz (g : Nat) (w w' : World) (r : Array Value) : Prop :=
  w'.heap[g]? = some (.cells r 36 (0, 0)) ∧ Below g w w' ∧ ∀ k, k < w.heap.size → k ≠ g → w'.heap[k]? = w.heap[k]?
theorem Mz.start {g : Nat} {w : World} {r : Array Value} (h : w.heap[g]? = some (.cells r 36 (0, 0))) (o : Obj) (q : Nat) : Mz g w ((w.alloc o).drewN q) r := by
  have hlt : g < w.heap.size := (Array.getElem?_eq_some_iff.1 h).1
  refine ⟨?_, below_drewN (Below.alloc (Below.refl _ _) (Nat.le_of_lt hlt) _) q, fun k hk _ => ?_⟩
  · show (w.alloc o).heap[g]? = _
    rw [Below.heap_alloc w o g hlt]; exact h
  · show (w.alloc o).heap[k]? = _
    rw [Below.heap_alloc w o k hk]
theorem Mz.set {g : Nat} {w w' : World} {r : Array Value} (h : Mz g w w' r) (i : Nat) (v : Value) : Mz g w (w'.setCell ⟨g, i, none⟩ v) (r.setIfInBounds i v) :=
  ⟨heap_setCell_same w' g i r 36 v h.1, h.2.1.setCell (Nat.le_refl _) v, fun k hk hn => (heap_setCell_other w' ⟨g, i, none⟩ k v hn).trans (h.2.2 k hk hn)⟩

set_option maxHeartbeats 4000000 in
set_option maxRecDepth 100000 in
/-- (*watch).mistaken on a watch at block g. -/
theorem mistaken_any (pe tm f x1 y1 : Int) (su : Bool) (pl lr ln x2 y2 ti : Int) (lo : Bool) (x3 y3 x4 y4 : Int) (he : Bool) (x5 y5 : Int) (g : Nat) (w : World)
    (hg0 : w.heap[g]? = some (.cells (rowW pe tm f x1 y1 su pl lr ln x2 y2 ti lo x3 y3 x4 y4 he) 36 (0, 0))) :
    Calls Yba.prog 6 #[.pointer (some ⟨g, 0, none⟩), .agg #[.int .u64 x5, .int .i64 y5, .pointer none]] w fun e w' => ∃ v, e = .returned v ∧
      w'.heap[g]? = some (.cells (rowW pe (gr tm) (bif lo then gr f else f) x1 y1 su pl lr ln x2 y2 0 false (bif tm == f then x5 else x3) (bif tm == f then y5 else y3) x5 y5 he) 36 (0, 0)) ∧
      Below g w w' ∧ ∀ k, k < w.heap.size → k ≠ g → w'.heap[k]? = w.heap[k]? := by
  have k1 : w.cell? ⟨g, 1, none⟩ = some (.int .i64 tm) := cell_of_row w g 1 _ 36 (0, 0) hg0
  have k2 : w.cell? ⟨g, 2, none⟩ = some (.int .i64 f) := cell_of_row w g 2 _ 36 (0, 0) hg0
  have k14 : w.cell? ⟨g, 14, none⟩ = some (.int .i64 ti) := cell_of_row w g 14 _ 36 (0, 0) hg0
  have k15 : w.cell? ⟨g, 15, none⟩ = some (.bool lo) := cell_of_row w g 15 _ 36 (0, 0) hg0
  have k16 : w.cell? ⟨g, 16, none⟩ = some (.int .u64 x3) := cell_of_row w g 16 _ 36 (0, 0) hg0
  have k17 : w.cell? ⟨g, 17, none⟩ = some (.int .i64 y3) := cell_of_row w g 17 _ 36 (0, 0) hg0
  have k18 : w.cell? ⟨g, 18, none⟩ = some (.pointer none) := cell_of_row w g 18 _ 36 (0, 0) hg0
  have k19 : w.cell? ⟨g, 19, none⟩ = some (.int .u64 x4) := cell_of_row w g 19 _ 36 (0, 0) hg0
  have k20 : w.cell? ⟨g, 20, none⟩ = some (.int .i64 y4) := cell_of_row w g 20 _ 36 (0, 0) hg0
  have k21 : w.cell? ⟨g, 21, none⟩ = some (.pointer none) := cell_of_row w g 21 _ 36 (0, 0) hg0
  have z1 := frozen_of_row w g 1 _ 36 hg0
  have z2 := frozen_of_row w g 2 _ 36 hg0
  have z14 := frozen_of_row w g 14 _ 36 hg0
  have z15 := frozen_of_row w g 15 _ 36 hg0
  have z16 := frozen_of_row w g 16 _ 36 hg0
  have z17 := frozen_of_row w g 17 _ 36 hg0
  have z18 := frozen_of_row w g 18 _ 36 hg0
  have z19 := frozen_of_row w g 19 _ 36 hg0
  have z20 := frozen_of_row w g 20 _ 36 hg0
  have z21 := frozen_of_row w g 21 _ 36 hg0
  have hlt : g < w.heap.size := (Array.getElem?_eq_some_iff.1 hg0).1
  have HG : Hid (w.heap[g]? = some (.cells (rowW pe tm f x1 y1 su pl lr ln x2 y2 ti lo x3 y3 x4 y4 he) 36 (0, 0))) := hg0
  clear hg0
  go_enter Yba.func6, Yba.ntmps6
  go_wp2_with fail
  go_quiet (fail)
  cases ht : (tm == f)
  all_goals cases lo
  all_goals
    go_wp2_with (go_at_call 11; refine (grown_any _ _).mono ?_; rintro e w' ⟨rfl, rfl⟩)
    go_end0
    simp only [ht, cond_true, cond_false]
  · have m := (((((Mz.start HG.out (.cells #[.int .u64 x5, .int .i64 y5, .pointer none] 31) nq).set 19 (.int .u64 x5)).set 20 (.int .i64 y5)).set 21 (.pointer none)).set 1 (.int .i64 (gr tm))).set 14 (.int .i64 0)
    simp only [set_x4, set_y4, set_z4, set_tm, set_ti] at m
    exact ⟨_, rfl, m⟩
  · have m := (((((((Mz.start HG.out (.cells #[.int .u64 x5, .int .i64 y5, .pointer none] 31) nq).set 19 (.int .u64 x5)).set 20 (.int .i64 y5)).set 21 (.pointer none)).set 2 (.int .i64 (gr f))).set 15 (.bool false)).set 1 (.int .i64 (gr tm))).set 14 (.int .i64 0)
    simp only [set_x4, set_y4, set_z4, set_tm, set_ti, set_f, set_lo] at m
    exact ⟨_, rfl, m⟩
  · have m := ((((((((Mz.start HG.out (.cells #[.int .u64 x5, .int .i64 y5, .pointer none] 31) nq).set 16 (.int .u64 x5)).set 17 (.int .i64 y5)).set 18 (.pointer none)).set 19 (.int .u64 x5)).set 20 (.int .i64 y5)).set 21 (.pointer none)).set 1 (.int .i64 (gr tm))).set 14 (.int .i64 0)
    simp only [set_x3, set_y3, set_z3, set_x4, set_y4, set_z4, set_tm, set_ti] at m
    exact ⟨_, rfl, m⟩
  · have m := ((((((((((Mz.start HG.out (.cells #[.int .u64 x5, .int .i64 y5, .pointer none] 31) nq).set 16 (.int .u64 x5)).set 17 (.int .i64 y5)).set 18 (.pointer none)).set 19 (.int .u64 x5)).set 20 (.int .i64 y5)).set 21 (.pointer none)).set 2 (.int .i64 (gr f))).set 15 (.bool false)).set 1 (.int .i64 (gr tm))).set 14 (.int .i64 0)
    simp only [set_x3, set_y3, set_z3, set_x4, set_y4, set_z4, set_tm, set_ti, set_f, set_lo] at m
    exact ⟨_, rfl, m⟩
end Go.Proofs.Ybulkdqby

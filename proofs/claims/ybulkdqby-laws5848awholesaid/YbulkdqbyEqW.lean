import Derived.Test.YbulkdqbyMis
import Derived.Laws.StructEq
import Derived.Laws.Pointers
namespace Go.Proofs.Ybulkdqby
open Go.RowKit
set_option maxHeartbeats 1000000 in
set_option maxRecDepth 100000 in
theorem eql36 (pe tm f x1 y1 : Int) (su : Bool) (pl lr ln x2 y2 ti : Int) (lo : Bool) (x3 y3 x4 y4 : Int) (he : Bool) (W : World) :
    (binOp .eql 36 (.agg (rowW pe tm f x1 y1 su pl lr ln x2 y2 ti lo x3 y3 x4 y4 he)) (.agg (rowW pe tm f x1 y1 su pl lr ln x2 y2 ti lo x3 y3 x4 y4 he))).run Yba.prog W = .ok (.bool true) W := by
  have pn : ∀ V : World, (Op.equalIn 9998 29 (.pointer none) (.pointer none)).run Yba.prog V = .ok true V := fun V => run_equalIn_pointer_nil V 9997 29 none (by kernel_rfl)
  unfold rowW
  go_simp
end Go.Proofs.Ybulkdqby

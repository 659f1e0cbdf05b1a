import Derived.Test.YbulkdpzuPick
namespace Go.Proofs.Ybulkdpzu
open Go.RowKit

/-- The cells of a Scope of which only name, parent and line are told (the other fields zero). -/
def Z (s : ByteArray) (p : Option Addr) (a : Option Addr) (l c : Nat) : Array Value := #[.string s, .string ByteArray.empty, .pointer p, .slice a l c, .nilFunc, .pointer none, .int .i32 0, .int .u32 0, .pointer none, .bool false, .bool false, .bool false, .int .u32 0, .int .u64 0, .pointer none, .int .u32 0, .int .u32 0, .int .u32 0, .pointer none, .slice none 0 0, .nilIface, .slice none 0 0, .slice none 0 0, .int .u8 0, .pointer none, .string ByteArray.empty, .slice none 0 0, .bool false, .bool false, .bool false, .bool false, .int .u8 0, .int .i32 0, .int .u32 0, .pointer none, .pointer none, .pointer none, .pointer none, .pointer none, .int .i32 0, .int .u32 0, .pointer none, .pointer none, .int .u64 0, .pointer none, .pointer none, .pointer none, .pointer none, .pointer none, .pointer none, .int .i32 0, .int .u32 0, .pointer none, .pointer none, .int .i32 0, .int .u8 0, .bool false, .pointer none, .pointer none, .int .i32 0, .int .u32 0, .int .u32 0, .int .u32 0, .int .i32 0, .int .i32 0, .pointer none, .int .u64 0]

theorem Z_2 (s : ByteArray) (p a : Option Addr) (l c : Nat) : (Z s p a l c)[2]? = some (.pointer p) := rfl
theorem Z_3 (s : ByteArray) (p a : Option Addr) (l c : Nat) : (Z s p a l c)[3]? = some (.slice a l c) := rfl

set_option maxRecDepth 100000 in
theorem build_name (s : ByteArray) (w : World) : (Instr.build 102 #[(0, .string s)]).run Yba.prog w = .ok (.agg (Z s none none 0 0)) w := by kernel_rfl
set_option maxRecDepth 100000 in
theorem build_line (s : ByteArray) (a : Option Addr) (l c : Nat) (w : World) : (Instr.build 102 #[(0, .string s), (3, .slice a l c)]).run Yba.prog w = .ok (.agg (Z s none a l c)) w := by kernel_rfl
set_option maxRecDepth 100000 in
theorem build_all (s : ByteArray) (p a : Option Addr) (l c : Nat) (w : World) : (Instr.build 102 #[(0, .string s), (2, .pointer p), (3, .slice a l c)]).run Yba.prog w = .ok (.agg (Z s p a l c)) w := by kernel_rfl
set_option maxRecDepth 100000 in
theorem box_Z (s : ByteArray) (p a : Option Addr) (l c : Nat) (w : World) : (Instr.box 102 (.agg (Z s p a l c))).run Yba.prog w = .ok (.pointer (some ⟨w.heap.size, 0, none⟩)) (w.alloc (.cells (Z s p a l c) 102)) := by kernel_rfl

section
variable {P : Program}
/-- A build of which the run's equation is known. -/
theorem wpList_build_run {ops : Array Oper} {rest : List Oper} {o : Oper} {a : Act} {w : World} {Q : Exit → Act → World → Prop} (hg : o.guard = none) (t : TypeId) (parts : Array (Nat × Operand)) (ho : o.op = .build t parts)
    (vs : List (Nat × Value)) (he : (parts.toList.map fun (i, x) => (i, a.eval x)) = vs) (v : Value) (hrun : (Instr.build t vs.toArray).run P w = .ok v w)
    (h : wpList P ops Q rest (a.put o.dst v) w) : wpList P ops Q (o :: rest) a w := by
  refine wpList_plain hg fun K hK => ?_
  have he' : (parts.map fun (i, x) => (i, a.eval x)) = vs.toArray := by rw [← he, ← Array.toList_map]
  unfold Oper.wp
  simp only [execOp, ho, he', Sem.run_bind, hrun, Result.andThen_ok]
  exact hK _ _ h
/-- A box of which the run's equation is known. -/
theorem wpList_box_run {ops : Array Oper} {rest : List Oper} {o : Oper} {a : Act} {w : World} {Q : Exit → Act → World → Prop} (hg : o.guard = none) (t : TypeId) (x : Operand) (ho : o.op = .box t x)
    (v : Value) (he : a.eval x = v) (p : Value) (w' : World) (hrun : (Instr.box t v).run P w = .ok p w')
    (h : wpList P ops Q rest (a.put o.dst p) w') : wpList P ops Q (o :: rest) a w := by
  refine wpList_plain hg fun K hK => ?_
  unfold Oper.wp
  simp only [execOp, ho, he, Sem.run_bind, hrun, Result.andThen_ok]
  exact hK _ _ h
end
end Go.Proofs.Ybulkdpzu

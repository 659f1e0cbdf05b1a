import Derived.Test.YbulkdqbyMis
import Derived.Laws.CopyOwn
import Derived.Deep.QuietTactic
namespace Go.Proofs.Ybulkdqby
open Go.RowKit

/-- The watch lies at block gA. -/
structure S1 (w wx : World) (gA : Nat) (rA : Array Value) : Prop where
  hA : wx.heap[gA]? = some (.cells rA 36 (0, 0))
  le : w.heap.size ≤ gA
  bel : Below w.heap.size w wx
/-- .. and the time at block gT. -/
structure S2 (w wx : World) (gA gT : Nat) (rA rT : Array Value) : Prop where
  s : S1 w wx gA rA
  hT : wx.heap[gT]? = some (.cells rT 31 (0, 0))
  aT : gA < gT
/-- .. and the copy that is kept at block gB. -/
structure S3 (w wx : World) (gA gT gB : Nat) (rA rT rB : Array Value) : Prop where
  s : S2 w wx gA gT rA rT
  hB : wx.heap[gB]? = some (.cells rB 36 (0, 0))
  aB : gT < gB
/-- .. and the copy that is turned at block gC. -/
structure S4 (w wx : World) (gA gT gB gC : Nat) (rA rT rB rC : Array Value) : Prop where
  s : S3 w wx gA gT gB rA rT rB
  hC : wx.heap[gC]? = some (.cells rC 36 (0, 0))
  aC : gB < gC

theorem lt_of_row {w : World} {g : Nat} {o : Obj} (h : w.heap[g]? = some o) : g < w.heap.size := (Array.getElem?_eq_some_iff.1 h).1
theorem old_alloc {w : World} {g : Nat} {o : Obj} (h : w.heap[g]? = some o) (p : Obj) : (w.alloc p).heap[g]? = some o :=
  (Below.heap_alloc w p g (lt_of_row h)).trans h
theorem new_alloc (w : World) (o : Obj) : (w.alloc o).heap[w.heap.size]? = some o := heap_alloc_new w o

section
variable {w wx : World} {gA gT gB gC : Nat} {rA rT rB rC : Array Value}
theorem S1.alloc (h : S1 w wx gA rA) (o : Obj) : S1 w (wx.alloc o) gA rA :=
  ⟨old_alloc h.hA o, h.le, h.bel.alloc h.bel.size o⟩
theorem S1.drew (h : S1 w wx gA rA) : S1 w wx.drew gA rA := ⟨h.hA, h.le, h.bel.drew⟩
theorem S1.made (hb : Below w.heap.size w wx) (r : Array Value) : S1 w (wx.alloc (.cells r 36)) wx.heap.size r :=
  ⟨new_alloc _ _, hb.size, hb.alloc hb.size _⟩
theorem S2.alloc (h : S2 w wx gA gT rA rT) (o : Obj) : S2 w (wx.alloc o) gA gT rA rT := ⟨h.s.alloc o, old_alloc h.hT o, h.aT⟩
theorem S2.made (h : S1 w wx gA rA) (r : Array Value) : S2 w (wx.alloc (.cells r 31)) gA wx.heap.size rA r :=
  ⟨h.alloc _, new_alloc _ _, lt_of_row h.hA⟩
theorem S2.keep (h : S2 w wx gA gT rA rT) (o r : Array Value) : S2 w ((wx.alloc (.cells o 36)).setRow wx.heap.size r) gA gT rA rT := by
  have la := lt_of_row h.s.hA
  have lt := lt_of_row h.hT
  refine ⟨⟨?_, h.s.le, below_setRow (h.s.bel.alloc h.s.bel.size _) h.s.bel.size r⟩, ?_, h.aT⟩
  · rw [setRow_other _ _ _ _ (by omega)]; exact old_alloc h.s.hA _
  · rw [setRow_other _ _ _ _ (by omega)]; exact old_alloc h.hT _
theorem S3.made (h : S2 w wx gA gT rA rT) (o r : Array Value) : S3 w ((wx.alloc (.cells o 36)).setRow wx.heap.size r) gA gT wx.heap.size rA rT r :=
  ⟨h.keep o r, setRow_heap _ _ _ _ _ _ (new_alloc _ _), lt_of_row h.hT⟩
theorem S4.made (h : S3 w wx gA gT gB rA rT rB) (o r : Array Value) : S4 w ((wx.alloc (.cells o 36)).setRow wx.heap.size r) gA gT gB wx.heap.size rA rT rB r := by
  have lb := lt_of_row h.hB
  refine ⟨⟨h.s.keep o r, ?_, h.aB⟩, ?_, lb⟩
  · rw [setRow_other _ _ _ _ (by omega)]; exact old_alloc h.hB _
  · exact setRow_heap _ _ _ _ _ _ (new_alloc _ _)
theorem S3.turned {w' : World} {r : Array Value} (h : S3 w wx gA gT gB rA rT rB) (m : Mz gA wx w' r) : S3 w w' gA gT gB r rT rB := by
  have lt := lt_of_row h.s.hT
  have lb := lt_of_row h.hB
  have a1 := h.s.aT
  have a2 := h.aB
  exact ⟨⟨⟨m.1, h.s.s.le, h.s.s.bel.trans (m.2.1.mono h.s.s.le)⟩, (m.2.2 gT lt (by omega)).trans h.s.hT, a1⟩, (m.2.2 gB lb (by omega)).trans h.hB, a2⟩
theorem S4.set (h : S4 w wx gA gT gB gC rA rT rB rC) (i : Nat) (v : Value) : S4 w (wx.setCell ⟨gC, i, none⟩ v) gA gT gB gC rA rT rB (rC.setIfInBounds i v) := by
  have a0 := h.s.s.s.le
  have a1 := h.s.s.aT
  have a2 := h.s.aB
  have a3 := h.aC
  refine ⟨⟨⟨⟨?_, a0, h.s.s.s.bel.setCell (by show _ ≤ gC; omega) v⟩, ?_, a1⟩, ?_, a2⟩, heap_setCell_same wx gC i rC 36 v h.hC, a3⟩
  · rw [heap_setCell_other _ _ _ _ (by show gA ≠ gC; omega)]; exact h.s.s.s.hA
  · rw [heap_setCell_other _ _ _ _ (by show gT ≠ gC; omega)]; exact h.s.s.hT
  · rw [heap_setCell_other _ _ _ _ (by show gB ≠ gC; omega)]; exact h.s.hB
end
/-- A load of a whole row in a region that only reads. -/
theorem quiet_load_row {P : Program} {ops : Array Oper} {C : World → Prop} {Q : Act → Prop} {o : Oper} {rest : List Oper} {a : Act} (ty : TypeId) (x : Operand) (hgd : Region.wanted o (yielded ops a.tmps) = true) (ho : o.op = .load ty x) (g : Nat) (hx : a.eval x = .pointer (some ⟨g, 0, none⟩)) (t : TypeId) (cs : Array Value) (d : TypeDesc)
    (hC : ∀ w, C w → w.heap[g]? = some (.cells cs t (0, 0))) (hu : P.underlying ty = some d) (hd : (match d with | .struct _ | .array _ _ => true | _ => false) = true) (hi : (P.info? ty).map (·.size) = some cs.size)
    (h : wpQuiet P ops C Q rest (a.put o.dst (.agg cs))) : wpQuiet P ops C Q (o :: rest) a := by
  unfold wpQuiet
  rw [if_pos hgd]
  refine ⟨.agg cs, fun w hw => ?_, h⟩
  unfold Oper.quietAt execOp
  simp only [ho, hx, Instr.loadAt, Instr.sureAddr, Sem.run_bind, Sem.run_pure, Result.andThen_ok, run_loadVar_row w g t ty cs (0, 0) d (hC w hw) hu hd hi]
  exact ⟨rfl, rfl⟩
theorem row_drewN {W : World} {g : Nat} {o : Obj} (h : W.heap[g]? = some o) : ∀ w, (∃ n, w = W.drewN n) → w.heap[g]? = some o := by
  rintro w ⟨n, rfl⟩
  exact h
theorem bel_alloc {w a : World} (h : Below w.heap.size w a) (o : Obj) : Below w.heap.size w (a.alloc o) := h.alloc h.size o
end Go.Proofs.Ybulkdqby

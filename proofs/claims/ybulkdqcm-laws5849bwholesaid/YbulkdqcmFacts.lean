import Derived.Test.YbulkdqcmRows
import Derived.WalkKit
import Derived.WalkLawsBesides
import Derived.WalkSpells
import Derived.LaidEqlPtr
import Derived.Deep.OwnRows
import Derived.Laws.CopyOwn
namespace Go.Proofs.Ybulkdqcm
open Go.RowKit

theorem info3 : (Yba.prog.info? 3).map (fun i => (i.zero, i.size, i.bytes)) = some (some (.int .i64 0), 1, 8) := by kernel_rfl
theorem size3 : (Yba.prog.info? 3).map (·.size) = some 1 := by kernel_rfl

section
variable {P : Program} (w : World)
/-- '!=' between a pointer and itself (nil or not). -/
theorem run_neq_ptr_same {tp te : TypeId} {j : TypeInfo} (p : Option Addr) (hp : P.underlying tp = some (.pointer te)) (hte : P.info? te = some j) :
    (binOp .neq tp (.pointer p) (.pointer p)).run P w = .ok (.bool false) w := by
  have h : ∀ d : Nat, (Op.equalIn (d + 1) tp (.pointer p) (.pointer p)).run P w = .ok true w := fun d => by
    cases p <;> simp [Op.equalIn, run_underlying hp, sizeOf, typeInfo, hte, run_sameAddr_same]
  simp only [binOp]
  simp [Op.equal, Op.maxDepth, h 9999]
end
theorem has3 : ∃ j, Yba.prog.info? 3 = some j := by
  have h : (Yba.prog.info? 3).isSome = true := by kernel_rfl
  exact Option.isSome_iff_exists.1 h
theorem neq25 (p : Option Addr) (w : World) : (binOp .neq 25 (.pointer p) (.pointer p)).run Yba.prog w = .ok (.bool false) w := by
  obtain ⟨j, hj⟩ := has3
  exact run_neq_ptr_same w p Yba.underlying25 hj

/-- The numbers as cells. -/
def nums (n : Nat) (z : Nat → Int) : List Value := (List.range n).map (fun i => .int .i64 (z i))
theorem nums_length (n : Nat) (z : Nat → Int) : (nums n z).length = n := by simp [nums]
theorem nums_get (n : Nat) (z : Nat → Int) (i : Nat) (h : i < n) : (nums n z)[i]? = some (.int .i64 (z i)) := by simp [nums, h]
theorem nums_one (n : Nat) (z : Nat → Int) : ∀ u ∈ nums n z, u.oneCell' = true := by
  intro u hu
  obtain ⟨i, _, rfl⟩ := List.mem_map.1 hu
  rfl

/-- The copy, its variable's box and the caller's numbers, as the law reads them. -/
structure Cp (w wx : World) (b off n : Nat) (z : Nat → Int) : Prop where
  box : wx.cell? ⟨w.heap.size, 0, none⟩ = some (.slice (some ⟨w.heap.size + 1, 0, none⟩) n n)
  fz : wx.frozen? ⟨w.heap.size, 0, none⟩ = false
  row : wx.rowIs (w.heap.size + 1) 3 n (fun i => .int .i64 (z i))
  arg : ∀ i, i < n → wx.cell? ⟨b, off + i, none⟩ = some (.int .i64 (z i))
  bel : Below w.heap.size w wx

theorem made_heap (w : World) (o : Obj) (n : Nat) : ((w.alloc o).alloc (.cells (madeCells #[.int .i64 0] n) 3)).heap[w.heap.size + 1]? = some (.cells (madeCells #[.int .i64 0] n) 3 (0, 0)) := by
  have := heap_alloc_new (w.alloc o) (.cells (madeCells #[.int .i64 0] n) 3)
  rwa [World.size_alloc] at this

theorem cp_src {w : World} {b off n : Nat} {z : Nat → Int} (o o' : Obj) (hc : ∀ i, i < n → w.cell? ⟨b, off + i, none⟩ = some (.int .i64 (z i))) : ∀ j v, (nums n z)[j]? = some v → ((w.alloc o).alloc o').cell? ((⟨b, off, none⟩ : Addr).add j) = some v := by
  intro j v hv
  have hj : j < n := by
    have := (List.getElem?_eq_some_iff.1 hv).1
    rwa [nums_length] at this
  rw [nums_get n z j hj] at hv
  have hadd : (⟨b, off, none⟩ : Addr).add j = ⟨b, off + j, none⟩ := by unfold Addr.add; split <;> simp_all
  have h0 := hc j hj
  have hb := World.block_lt_of_cell? _ _ h0
  simp only at hb
  rw [hadd, World.cell?_alloc_past _ _ _ (by simp; omega), World.cell?_alloc_past _ _ _ hb, h0]
  exact hv

theorem cp_made {w : World} {b off n : Nat} {z : Nat → Int} (hc : ∀ i, i < n → w.cell? ⟨b, off + i, none⟩ = some (.int .i64 (z i))) (cs : List Value) (hcs : cs = nums n z) :
    Cp w (((w.alloc (.cells #[.slice (some ⟨w.heap.size + 1, 0, none⟩) n n] 22)).alloc (.cells (madeCells #[.int .i64 0] n) 3)).setRow (w.heap.size + 1) ((madeCells #[.int .i64 0] n).toList.take 0 ++ (cs ++ (madeCells #[.int .i64 0] n).toList.drop (0 + cs.length))).toArray) b off n z := by
  subst hcs
  have hcur : (madeCells #[Value.int .i64 0] n).size = n := size_madeCells _ _
  have hd : (madeCells #[Value.int .i64 0] n).toList.drop (0 + (nums n z).length) = [] := List.drop_eq_nil_of_le (by rw [nums_length, Array.length_toList, hcur]; omega)
  rw [hd, List.append_nil, List.take_zero, List.nil_append]
  have hm := made_heap w (.cells #[.slice (some ⟨w.heap.size + 1, 0, none⟩) n n] 22) n
  have hrow := setRow_heap ((w.alloc (.cells #[.slice (some ⟨w.heap.size + 1, 0, none⟩) n n] 22)).alloc (.cells (madeCells #[.int .i64 0] n) 3)) (w.heap.size + 1) _ (nums n z).toArray 3 _ hm
  have hoth : ∀ k, k ≠ w.heap.size + 1 → (((w.alloc (.cells #[.slice (some ⟨w.heap.size + 1, 0, none⟩) n n] 22)).alloc (.cells (madeCells #[.int .i64 0] n) 3)).setRow (w.heap.size + 1) (nums n z).toArray).heap[k]? = ((w.alloc (.cells #[.slice (some ⟨w.heap.size + 1, 0, none⟩) n n] 22)).alloc (.cells (madeCells #[.int .i64 0] n) 3)).heap[k]? := fun k hk => setRow_other _ _ k _ hk
  have hbel : Below w.heap.size w ((w.alloc (.cells #[.slice (some ⟨w.heap.size + 1, 0, none⟩) n n] 22)).alloc (.cells (madeCells #[.int .i64 0] n) 3)) := ((Below.refl _ _).alloc (Nat.le_refl _) _).alloc (by simp) _
  have hbel2 := below_setRow hbel (show w.heap.size ≤ w.heap.size + 1 by omega) (nums n z).toArray
  refine ⟨?_, ?_, ?_, ?_, hbel2⟩
  · rw [World.cell?_of_block (hoth w.heap.size (by omega)), World.cell?_alloc_past _ _ _ (by simp), World.cell?_alloc_at _ _ _ _ rfl]; rfl
  · rw [World.frozen?_of_block (hoth w.heap.size (by omega)), World.frozen?_alloc_past _ _ _ (by simp), World.frozen?_alloc_at _ _ _ _ rfl]
  · exact ⟨(nums n z).toArray, hrow, by simp [nums_length], fun i hi => by simpa using nums_get n z i hi⟩
  · intro i hi
    have h0 := hc i hi
    have hb := World.block_lt_of_cell? _ _ h0
    simp only at hb
    rw [hbel2.cell (by exact hb)]; exact h0

set_option maxHeartbeats 400000 in
/-- 'passed' where the first offset is not start: nothing is taken. -/
theorem passed_miss (bh M n : Nat) (st x : Int) (w : World) (hn : 0 < n) (hle : n ≤ 1048576) (box : w.cell? ⟨bh, 0, none⟩ = some (.slice (some ⟨M, 0, none⟩) n n)) (c0 : w.cell? ⟨M, 0, none⟩ = some (.int .i64 x)) (hx : (x != st) = true) :
    Calls Yba.prog 4 #[.pointer (some ⟨bh, 0, none⟩), .int .i64 st] w fun e w' => e = .returned (.bool false) ∧ w = w' := by
  have b0 : ((n : Int) == 0) = false := by rw [beq_eq_false_iff_ne]; omega
  have hni : (0 : Int) < (n : Int) := by omega
  go_enter Yba.func4, Yba.ntmps4
  go_wp2
  go_ret
  exact ⟨rfl, rfl⟩
set_option maxHeartbeats 400000 in
/-- 'passed' on an empty list. -/
theorem passed_none (bh : Nat) (a : Option Addr) (cap : Nat) (st : Int) (w : World) (box : w.cell? ⟨bh, 0, none⟩ = some (.slice a 0 cap)) :
    Calls Yba.prog 4 #[.pointer (some ⟨bh, 0, none⟩), .int .i64 st] w fun e w' => e = .returned (.bool false) ∧ w = w' := by
  go_enter Yba.func4, Yba.ntmps4
  go_wp2
  go_ret
  exact ⟨rfl, rfl⟩
set_option maxHeartbeats 400000 in
/-- 'passed' where the one offset is start. -/
theorem passed_one (bh M : Nat) (st x : Int) (w : World) (box : w.cell? ⟨bh, 0, none⟩ = some (.slice (some ⟨M, 0, none⟩) 1 1)) (fz : w.frozen? ⟨bh, 0, none⟩ = false) (c0 : w.cell? ⟨M, 0, none⟩ = some (.int .i64 x)) (hx : (x != st) = false) :
    Calls Yba.prog 4 #[.pointer (some ⟨bh, 0, none⟩), .int .i64 st] w fun e w' => e = .returned (.bool true) ∧ w' = w.setCell ⟨bh, 0, none⟩ (.slice (some ⟨M, 0, none⟩) 0 0) := by
  go_enter Yba.func4, Yba.ntmps4
  go_wp2
  go_ret
  exact ⟨rfl, rfl⟩
set_option maxHeartbeats 400000 in
/-- 'passed' where the first of several offsets is start. -/
theorem passed_more (bh M m : Nat) (st x : Int) (w : World) (hle : m ≤ 1048576) (box : w.cell? ⟨bh, 0, none⟩ = some (.slice (some ⟨M, 0, none⟩) (m + 2) (m + 2))) (fz : w.frozen? ⟨bh, 0, none⟩ = false) (c0 : w.cell? ⟨M, 0, none⟩ = some (.int .i64 x)) (hx : (x != st) = false) :
    Calls Yba.prog 4 #[.pointer (some ⟨bh, 0, none⟩), .int .i64 st] w fun e w' => e = .returned (.bool true) ∧ w' = w.setCell ⟨bh, 0, none⟩ (.slice (some ⟨M, 1, none⟩) (m + 1) (m + 1)) := by
  have b0 : ((m : Int) + 2 == 0) = false := by rw [beq_eq_false_iff_ne]; omega
  have hm1 : ¬ (m + 2 = 1) := by omega
  go_enter Yba.func4, Yba.ntmps4
  go_wp2
  go_ret
  exact ⟨rfl, rfl⟩

/-- What the law reads behind a hit. -/
structure Hit (w we : World) (b off n : Nat) (z : Nat → Int) (v : Value) : Prop where
  box : we.cell? ⟨w.heap.size, 0, none⟩ = some v
  row : ∀ i, i < n → we.cell? ⟨w.heap.size + 1, i, none⟩ = some (.int .i64 (z i))
  arg : ∀ i, i < n → we.cell? ⟨b, off + i, none⟩ = some (.int .i64 (z i))
  bel : Below w.heap.size w we
theorem hit_made {w wx : World} {b off n : Nat} {z : Nat → Int} (h : Cp w wx b off n z) (hb : b < w.heap.size) (v : Value) : Hit w (wx.setCell ⟨w.heap.size, 0, none⟩ v) b off n z v := by
  have far : ∀ (k o : Nat), k ≠ w.heap.size → (wx.setCell ⟨w.heap.size, 0, none⟩ v).cell? ⟨k, o, none⟩ = wx.cell? ⟨k, o, none⟩ := fun k o hk => World.cell?_of_block (Below.heap_setCell wx ⟨w.heap.size, 0, none⟩ v k hk)
  refine ⟨World.cell?_setCell_same wx ⟨w.heap.size, 0, none⟩ _ h.box, fun i hi => ?_, fun i hi => ?_, h.bel.setCell (Nat.le_refl _) _⟩
  · rw [far _ _ (by omega)]; exact h.row.cell hi
  · rw [far _ _ (by omega)]; exact h.arg i hi
end Go.Proofs.Ybulkdqcm

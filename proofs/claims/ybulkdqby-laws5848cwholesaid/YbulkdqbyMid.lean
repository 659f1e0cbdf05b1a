import Derived.Test.YbulkdqbyRows
import Derived.Test.YbulkdqbyPlain
import Derived.WalkKit
import Derived.Deep.AppendLies
import Derived.Deep.Draws
namespace Go.Proofs.Ybulkdqby
open Go.RowKit

theorem flat_set0 (L : List (Int × Int)) (i : Nat) (v : Int) (h : i < L.length) : (flat L).set (i * 2) (.int .u64 v) = flat (L.set i (v, la L i)) := by
  induction L generalizing i with
  | nil => simp at h
  | cons p r ih =>
    cases i with
    | zero => simp [flat, la]
    | succ i =>
      have := ih i (by simpa using h)
      rw [show (i + 1) * 2 = i * 2 + 1 + 1 by omega]
      simpa [flat, la] using this
theorem flat_set1 (L : List (Int × Int)) (i : Nat) (v : Int) (h : i < L.length) : (flat L).set (i * 2 + 1) (.int .u64 v) = flat (L.set i (fi L i, v)) := by
  induction L generalizing i with
  | nil => simp at h
  | cons p r ih =>
    cases i with
    | zero => simp [flat, fi]
    | succ i =>
      have := ih i (by simpa using h)
      rw [show (i + 1) * 2 + 1 = i * 2 + 1 + 1 + 1 by omega]
      simpa [flat, fi] using this

/-- What 'add' is handed: a box bn over a row of its caller's own. -/
structure Pre (w : World) (base bn g n cap : Nat) (L : List (Int × Int)) : Prop where
  len : L.length = n
  own : w.ownsRow base 45 2 (.slice (some ⟨g, 0, none⟩) n cap) n (flat L)
  cn : w.cell? ⟨bn, 0, none⟩ = some (.slice (some ⟨g, 0, none⟩) n cap)
  fn : w.frozen? ⟨bn, 0, none⟩ = false
  ne : bn ≠ g
  hbn : base ≤ w.heap.size

/-- The world inside 'add': the boxes of k and s behind, the row's content now L. -/
structure Mid (w wx : World) (base bn g n cap : Nat) (k : Int) (L : List (Int × Int)) : Prop where
  len : L.length = n
  own : wx.ownsRow base 45 2 (.slice (some ⟨g, 0, none⟩) n cap) n (flat L)
  ck : wx.cell? ⟨w.heap.size, 0, none⟩ = some (.int .u64 k)
  cs : wx.cell? ⟨w.heap.size + 1, 0, none⟩ = some (.slice (some ⟨g, 0, none⟩) n cap)
  cn : wx.cell? ⟨bn, 0, none⟩ = some (.slice (some ⟨g, 0, none⟩) n cap)
  fn : wx.frozen? ⟨bn, 0, none⟩ = false
  ne : bn ≠ g
  hb : base ≤ w.heap.size
  lg : g < w.heap.size
  lb : bn < w.heap.size
  size : w.heap.size + 2 ≤ wx.heap.size
  os : wx.os = w.os
  tape : wx.tape = w.tape
  output : wx.output = w.output
  keep : ∀ b, b < w.heap.size → b ≠ g → wx.heap[b]? = w.heap[b]?

/-- What 'add' leaves. -/
structure Added (w w' : World) (base bn g : Nat) (L : List (Int × Int)) (g' cap' : Nat) : Prop where
  own : w'.ownsRow base 45 2 (.slice (some ⟨g', 0, none⟩) L.length cap') L.length (flat L)
  cn : w'.cell? ⟨bn, 0, none⟩ = some (.slice (some ⟨g', 0, none⟩) L.length cap')
  size : w.heap.size ≤ w'.heap.size
  os : w'.os = w.os
  tape : w'.tape = w.tape
  output : w'.output = w.output
  keep : ∀ b, b < w.heap.size → b ≠ g → b ≠ bn → w'.heap[b]? = w.heap[b]?

section
variable {w wx : World} {base bn g n cap : Nat} {k : Int} {L : List (Int × Int)}

theorem mid_start (h : Pre w base bn g n cap L) (k : Int) : Mid w ((w.alloc (.cells #[.int .u64 k] 23)).alloc (.cells #[.slice (some ⟨g, 0, none⟩) n cap] 42)) base bn g n cap k L := by
  have lg := (h.own.lt g rfl).2
  have lb := World.block_lt_of_cell? _ _ h.cn
  simp only at lb
  have hb : Below w.heap.size w ((w.alloc (.cells #[.int .u64 k] 23)).alloc (.cells #[.slice (some ⟨g, 0, none⟩) n cap] 42)) := ((Below.refl _ _).alloc (Nat.le_refl _) _).alloc (by simp) _
  refine ⟨h.len, (h.own.alloc _).alloc _, ?_, ?_, ?_, ?_, h.ne, h.hbn, lg, lb, by simp, rfl, rfl, rfl, fun b hlt _ => hb.block b hlt⟩
  · rw [World.cell?_alloc_past _ _ _ (by simp), World.cell?_alloc_at _ _ _ _ rfl]; rfl
  · rw [World.cell?_alloc_at _ _ _ _ (by simp)]; rfl
  · rw [hb.cell (by exact lb)]; exact h.cn
  · rw [hb.frozen (by exact lb)]; exact h.fn

theorem Mid.cell0 (h : Mid w wx base bn g n cap k L) (i : Nat) (hi : i < n) : wx.cell? ⟨g, i * 2, none⟩ = some (.int .u64 (fi L i)) := by
  rw [h.own.cellAt (i * 2) (by omega)]; exact flat_get0 L i (by rw [h.len]; exact hi)
theorem Mid.cell1 (h : Mid w wx base bn g n cap k L) (i : Nat) (hi : i < n) : wx.cell? ⟨g, i * 2 + 1, none⟩ = some (.int .u64 (la L i)) := by
  rw [h.own.cellAt (i * 2 + 1) (by omega)]; exact flat_get1 L i (by rw [h.len]; exact hi)
theorem Mid.drewN (h : Mid w wx base bn g n cap k L) (q : Nat) : Mid w (wx.drewN q) base bn g n cap k L :=
  ⟨h.len, h.own, h.ck, h.cs, h.cn, h.fn, h.ne, h.hb, h.lg, h.lb, h.size, h.os, h.tape, h.output, h.keep⟩

theorem Mid.store (h : Mid w wx base bn g n cap k L) (j : Nat) (u : Value) {L' : List (Int × Int)} (hl : L'.length = n) (hf : (flat L).set j u = flat L') : Mid w (wx.setCell ⟨g, j, none⟩ u) base bn g n cap k L' := by
  have hs := h.own.stored j u
  have lg := h.lg
  have ne := h.ne
  have lb := h.lb
  have ck := h.ck
  have hsz := h.size
  have far : ∀ (b o : Nat), b ≠ g → (wx.setCell ⟨g, j, none⟩ u).cell? ⟨b, o, none⟩ = wx.cell? ⟨b, o, none⟩ := fun b o hb => World.cell?_of_block (Below.heap_setCell wx ⟨g, j, none⟩ u b hb)
  have farf : ∀ (b o : Nat), b ≠ g → (wx.setCell ⟨g, j, none⟩ u).frozen? ⟨b, o, none⟩ = wx.frozen? ⟨b, o, none⟩ := fun b o hb => World.frozen?_of_block (Below.heap_setCell wx ⟨g, j, none⟩ u b hb)
  refine ⟨hl, by rw [← hf]; exact hs.1, ?_, ?_, ?_, ?_, h.ne, h.hb, h.lg, h.lb, by simpa [World.setCell] using h.size, h.os, h.tape, h.output, ?_⟩
  · rw [far _ _ (by omega)]; exact h.ck
  · rw [far _ _ (by omega)]; exact h.cs
  · rw [far _ _ h.ne]; exact h.cn
  · rw [farf _ _ h.ne]; exact h.fn
  · intro b hb hbg
    rw [Below.heap_setCell wx ⟨g, j, none⟩ u b hbg]
    exact h.keep b hb hbg

theorem Mid.set1 (h : Mid w wx base bn g n cap k L) (i : Nat) (hi : i < n) (v : Int) : Mid w (wx.setCell ⟨g, i * 2 + 1, none⟩ (.int .u64 v)) base bn g n cap k (L.set i (fi L i, v)) :=
  h.store _ _ (by simpa using h.len) (flat_set1 L i v (by rw [h.len]; exact hi))
theorem Mid.set0 (h : Mid w wx base bn g n cap k L) (i : Nat) (hi : i < n) (v : Int) : Mid w (wx.setCell ⟨g, i * 2, none⟩ (.int .u64 v)) base bn g n cap k (L.set i (v, la L i)) :=
  h.store _ _ (by simpa using h.len) (flat_set0 L i v (by rw [h.len]; exact hi))

theorem Mid.added (h : Mid w wx base bn g n cap k L) {L' : List (Int × Int)} (e : L = L') : Added w wx base bn g L' g cap := by
  subst e
  have hl := h.len
  exact ⟨by rw [hl]; exact h.own, by rw [hl]; exact h.cn, by have := h.size; omega, h.os, h.tape, h.output, fun b hb h1 _ => h.keep b hb h1⟩
end
end Go.Proofs.Ybulkdqby

import Derived.Test.YbulkdpzuScope
import Derived.Deep.OwnRows
namespace Go.Proofs.Ybulkdpzu
open Go.RowKit

theorem pinfo23 : (Yba.prog.info? 23).map (fun i => (i.zero, i.size, i.bytes)) = some (some (.pointer none), 1, 8) := by kernel_rfl

/-- What the pool is, once laid. -/
structure Pool (w wx : World) : Prop where
  size : wx.heap.size = w.heap.size + 4
  c0 : wx.cell? ⟨w.heap.size + 3, 0, none⟩ = some (.pointer (some ⟨w.heap.size, 0, none⟩))
  c1 : wx.cell? ⟨w.heap.size + 3, 1, none⟩ = some (.pointer (some ⟨w.heap.size + 1, 0, none⟩))
  c2 : wx.cell? ⟨w.heap.size + 3, 2, none⟩ = some (.pointer (some ⟨w.heap.size + 2, 0, none⟩))
  bel : Below w.heap.size w wx

theorem pool_laid (w : World) (o0 o1 o2 : Obj) : Pool w ((((w.alloc o0).alloc o1).alloc o2).alloc (.cells #[.pointer (some ⟨w.heap.size, 0, none⟩), .pointer (some ⟨w.heap.size + 1, 0, none⟩), .pointer (some ⟨w.heap.size + 1 + 1, 0, none⟩)] 103)) := by
  refine ⟨by simp, ?_, ?_, ?_, ?_⟩
  · rw [World.cell?_alloc_at _ _ _ _ (by simp)]; rfl
  · rw [World.cell?_alloc_at _ _ _ _ (by simp)]; rfl
  · rw [World.cell?_alloc_at _ _ _ _ (by simp)]; rfl
  · exact ((((Below.refl _ w).alloc (Nat.le_refl _) _).alloc (by simp) _).alloc (by simp; omega) _).alloc (by simp; omega) _

/-- The line filled as far as k. -/
structure Fill (w wc wr : World) (n : Nat) (z : Nat → Int) (k : Nat) : Prop where
  row : wr.rowIs (w.heap.size + 4) 23 n (fun j => if j < k then .pointer (pk w.heap.size (z j)) else .pointer none)
  bel : Below (w.heap.size + 4) wc wr
  size : wr.heap.size = w.heap.size + 5

theorem fill_start {w wc : World} (n : Nat) (z : Nat → Int) (hp : Pool w wc) : Fill w wc (wc.alloc (.cells (madeCells #[.pointer none] n) 23)) n z 0 := by
  refine ⟨?_, ?_, by simp [hp.size]⟩
  · have h := World.rowIs_made wc (.pointer none) n 23
    rw [hp.size] at h
    exact h.congr fun i hi => by simp
  · exact (Below.refl _ _).alloc (by rw [hp.size]; omega) _

theorem fill_step {w wc wr : World} {n : Nat} {z : Nat → Int} {k : Nat} (hk : k < n) (h : Fill w wc wr n z k) : Fill w wc (wr.setCell ⟨w.heap.size + 4, k, none⟩ (.pointer (pk w.heap.size (z k)))) n z (k + 1) := by
  refine ⟨?_, h.bel.setCell (by simp) _, by simp [World.setCell, h.size]⟩
  refine (h.row.set k (.pointer (pk w.heap.size (z k)))).congr fun i hi => ?_
  by_cases e : i = k
  · subst e; simp
  · rw [if_neg e]
    by_cases e2 : i < k
    · rw [if_pos e2, if_pos (by omega)]
    · rw [if_neg e2, if_neg (by omega)]

/-- All that the second half of the law reads. -/
structure Laid (w wx : World) (b off n : Nat) (z : Nat → Int) : Prop where
  bel : Below w.heap.size w wx
  c0 : wx.cell? ⟨w.heap.size + 3, 0, none⟩ = some (.pointer (some ⟨w.heap.size, 0, none⟩))
  c1 : wx.cell? ⟨w.heap.size + 3, 1, none⟩ = some (.pointer (some ⟨w.heap.size + 1, 0, none⟩))
  c2 : wx.cell? ⟨w.heap.size + 3, 2, none⟩ = some (.pointer (some ⟨w.heap.size + 2, 0, none⟩))
  line : ∀ j, j < n → wx.cell? ⟨w.heap.size + 4, j, none⟩ = some (.pointer (pk w.heap.size (z j)))
  arg : ∀ j, j < n → wx.cell? ⟨b, off + j, none⟩ = some (.int .u8 (z j))
  o0 : wx.cell? ⟨w.heap.size + 5, 0, none⟩ = some (.pointer (some ⟨w.heap.size, 0, none⟩))
  o1 : wx.cell? ⟨w.heap.size + 5, 1, none⟩ = some (.pointer (some ⟨w.heap.size + 1, 0, none⟩))

theorem laid_of {w wc wr wx : World} {b off n : Nat} {z : Nat → Int} (hb : b < w.heap.size) (hc : ∀ i, i < n → w.cell? ⟨b, off + i, none⟩ = some (.int .u8 (z i))) (hp : Pool w wc) (hf : Fill w wc wr n z n)
    (hx : Below (w.heap.size + 6) (wr.alloc (.cells #[.pointer (some ⟨w.heap.size, 0, none⟩), .pointer (some ⟨w.heap.size + 1, 0, none⟩)] 23)) wx) : Laid w wx b off n z := by
  have h5 : Below (w.heap.size + 5) wr wx := ((Below.refl (w.heap.size + 5) wr).alloc (by rw [hf.size]; omega) _).trans (hx.mono (by omega))
  have h4 : Below (w.heap.size + 4) wc wx := hf.bel.trans (h5.mono (by omega))
  refine ⟨hp.bel.trans (h4.mono (by omega)), (h4.cell (by simp)).trans hp.c0, (h4.cell (by simp)).trans hp.c1, (h4.cell (by simp)).trans hp.c2, ?_, ?_, ?_, ?_⟩
  · intro j hj
    rw [h5.cell (by simp), hf.row.cell hj, if_pos hj]
  · intro j hj
    rw [h4.cell (by simp; omega), hp.bel.cell (by simpa using hb)]
    exact hc j hj
  · rw [hx.cell (by simp), World.cell?_alloc_at _ _ _ _ (by rw [hf.size])]; rfl
  · rw [hx.cell (by simp), World.cell?_alloc_at _ _ _ _ (by rw [hf.size])]; rfl

/-- The scope without a parent. -/
theorem laid_false {w wc wr : World} {b off n : Nat} {z : Nat → Int} (hb : b < w.heap.size) (hc : ∀ i, i < n → w.cell? ⟨b, off + i, none⟩ = some (.int .u8 (z i))) (hp : Pool w wc) (hf : Fill w wc wr n z n) (s : ByteArray) (p : Option Addr) {wx : World}
    (e : wx = (wr.alloc (.cells #[.pointer (some ⟨w.heap.size, 0, none⟩), .pointer (some ⟨w.heap.size + 1, 0, none⟩)] 23)).alloc (.cells (Z s p (some ⟨w.heap.size + 5, 0, none⟩) 2 2) 102)) :
    Laid w wx b off n z ∧ wx.cell? ⟨w.heap.size + 6, 2, none⟩ = some (.pointer p) ∧ wx.cell? ⟨w.heap.size + 6, 3, none⟩ = some (.slice (some ⟨w.heap.size + 5, 0, none⟩) 2 2) := by
  subst e
  refine ⟨laid_of hb hc hp hf ((Below.refl _ _).alloc (by simp [hf.size]) _), ?_, ?_⟩
  · rw [World.cell?_alloc_at _ _ _ _ (by simp [hf.size])]; rfl
  · rw [World.cell?_alloc_at _ _ _ _ (by simp [hf.size])]; rfl

/-- The scope with a parent. -/
theorem laid_true {w wc wr : World} {b off n : Nat} {z : Nat → Int} (hb : b < w.heap.size) (hc : ∀ i, i < n → w.cell? ⟨b, off + i, none⟩ = some (.int .u8 (z i))) (hp : Pool w wc) (hf : Fill w wc wr n z n) (s t : ByteArray) (lo : Option Addr) {wx : World}
    (e : wx = ((wr.alloc (.cells #[.pointer (some ⟨w.heap.size, 0, none⟩), .pointer (some ⟨w.heap.size + 1, 0, none⟩)] 23)).alloc (.cells (Z t none lo n n) 102)).alloc (.cells (Z s (some ⟨w.heap.size + 6, 0, none⟩) (some ⟨w.heap.size + 5, 0, none⟩) 2 2) 102)) :
    Laid w wx b off n z ∧ wx.cell? ⟨w.heap.size + 7, 2, none⟩ = some (.pointer (some ⟨w.heap.size + 6, 0, none⟩)) ∧ wx.cell? ⟨w.heap.size + 7, 3, none⟩ = some (.slice (some ⟨w.heap.size + 5, 0, none⟩) 2 2) ∧
    wx.cell? ⟨w.heap.size + 6, 2, none⟩ = some (.pointer none) ∧ wx.cell? ⟨w.heap.size + 6, 3, none⟩ = some (.slice lo n n) := by
  subst e
  refine ⟨laid_of hb hc hp hf (((Below.refl _ _).alloc (by simp [hf.size]) _).alloc (by simp [hf.size]) _), ?_, ?_, ?_, ?_⟩
  · rw [World.cell?_alloc_at _ _ _ _ (by simp [hf.size])]; rfl
  · rw [World.cell?_alloc_at _ _ _ _ (by simp [hf.size])]; rfl
  · rw [World.cell?_alloc_past _ _ _ (by simp [hf.size]), World.cell?_alloc_at _ _ _ _ (by simp [hf.size])]; rfl
  · rw [World.cell?_alloc_past _ _ _ (by simp [hf.size]), World.cell?_alloc_at _ _ _ _ (by simp [hf.size])]; rfl
end Go.Proofs.Ybulkdpzu

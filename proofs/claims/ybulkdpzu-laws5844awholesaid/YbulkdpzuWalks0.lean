import Derived.Test.YbulkdpzuFacts
import Derived.Deep.LoopGhost
import Derived.Deep.DeepCutAuto
import Derived.Deep.QuietTactic
import Derived.BigQuiet
import Derived.WalkSmall
namespace Go.Proofs.Ybulkdpzu
open Go.RowKit

/-- The pool as it stands in a later world. -/
structure PoolB (w wx : World) : Prop where
  bel : Below w.heap.size w wx
  size : w.heap.size + 4 ≤ wx.heap.size
  c0 : wx.cell? ⟨w.heap.size + 3, 0, none⟩ = some (.pointer (some ⟨w.heap.size, 0, none⟩))
  c1 : wx.cell? ⟨w.heap.size + 3, 1, none⟩ = some (.pointer (some ⟨w.heap.size + 1, 0, none⟩))
  c2 : wx.cell? ⟨w.heap.size + 3, 2, none⟩ = some (.pointer (some ⟨w.heap.size + 2, 0, none⟩))

theorem poolB_of {w wx : World} (h : Pool w wx) : PoolB w wx := ⟨h.bel, by rw [h.size]; omega, h.c0, h.c1, h.c2⟩
theorem poolB_alloc {w wx : World} (h : PoolB w wx) (o : Obj) : PoolB w (wx.alloc o) := by
  have hs := h.size
  refine ⟨h.bel.alloc (by omega) _, by simp; omega, ?_, ?_, ?_⟩
  · rw [World.cell?_alloc_past _ _ _ (by omega)]; exact h.c0
  · rw [World.cell?_alloc_past _ _ _ (by omega)]; exact h.c1
  · rw [World.cell?_alloc_past _ _ _ (by omega)]; exact h.c2

theorem laid0_false {w wc : World} (hp : PoolB w wc) (s : ByteArray) (p : Option Addr) {wx : World}
    (e : wx = (wc.alloc (.cells #[.pointer (some ⟨w.heap.size, 0, none⟩), .pointer (some ⟨w.heap.size + 1, 0, none⟩)] 23)).alloc (.cells (Z s p (some ⟨wc.heap.size, 0, none⟩) 2 2) 102)) :
    PoolB w wx ∧ wx.cell? ⟨wc.heap.size + 1, 2, none⟩ = some (.pointer p) ∧ wx.cell? ⟨wc.heap.size + 1, 3, none⟩ = some (.slice (some ⟨wc.heap.size, 0, none⟩) 2 2) ∧
    wx.cell? ⟨wc.heap.size, 0, none⟩ = some (.pointer (some ⟨w.heap.size, 0, none⟩)) ∧ wx.cell? ⟨wc.heap.size, 1, none⟩ = some (.pointer (some ⟨w.heap.size + 1, 0, none⟩)) := by
  subst e
  refine ⟨poolB_alloc (poolB_alloc hp _) _, ?_, ?_, ?_, ?_⟩
  · rw [World.cell?_alloc_at _ _ _ _ (by simp)]; rfl
  · rw [World.cell?_alloc_at _ _ _ _ (by simp)]; rfl
  · rw [World.cell?_alloc_past _ _ _ (by simp), World.cell?_alloc_at _ _ _ _ rfl]; rfl
  · rw [World.cell?_alloc_past _ _ _ (by simp), World.cell?_alloc_at _ _ _ _ rfl]; rfl

theorem laid0_true {w wc : World} (hp : PoolB w wc) (s t : ByteArray) (lo : Option Addr) (n : Nat) {wx : World}
    (e : wx = ((wc.alloc (.cells #[.pointer (some ⟨w.heap.size, 0, none⟩), .pointer (some ⟨w.heap.size + 1, 0, none⟩)] 23)).alloc (.cells (Z t none lo n n) 102)).alloc (.cells (Z s (some ⟨wc.heap.size + 1, 0, none⟩) (some ⟨wc.heap.size, 0, none⟩) 2 2) 102)) :
    PoolB w wx ∧ wx.cell? ⟨wc.heap.size + 1 + 1, 2, none⟩ = some (.pointer (some ⟨wc.heap.size + 1, 0, none⟩)) ∧ wx.cell? ⟨wc.heap.size + 1 + 1, 3, none⟩ = some (.slice (some ⟨wc.heap.size, 0, none⟩) 2 2) ∧
    wx.cell? ⟨wc.heap.size, 0, none⟩ = some (.pointer (some ⟨w.heap.size, 0, none⟩)) ∧ wx.cell? ⟨wc.heap.size, 1, none⟩ = some (.pointer (some ⟨w.heap.size + 1, 0, none⟩)) ∧
    wx.cell? ⟨wc.heap.size + 1, 2, none⟩ = some (.pointer none) ∧ wx.cell? ⟨wc.heap.size + 1, 3, none⟩ = some (.slice lo n n) := by
  subst e
  refine ⟨poolB_alloc (poolB_alloc (poolB_alloc hp _) _) _, ?_, ?_, ?_, ?_, ?_, ?_⟩
  · rw [World.cell?_alloc_at _ _ _ _ (by simp)]; rfl
  · rw [World.cell?_alloc_at _ _ _ _ (by simp)]; rfl
  · rw [World.cell?_alloc_past _ _ _ (by simp; omega), World.cell?_alloc_past _ _ _ (by simp), World.cell?_alloc_at _ _ _ _ rfl]; rfl
  · rw [World.cell?_alloc_past _ _ _ (by simp; omega), World.cell?_alloc_past _ _ _ (by simp), World.cell?_alloc_at _ _ _ _ rfl]; rfl
  · rw [World.cell?_alloc_past _ _ _ (by simp), World.cell?_alloc_at _ _ _ _ (by simp)]; rfl
  · rw [World.cell?_alloc_past _ _ _ (by simp), World.cell?_alloc_at _ _ _ _ (by simp)]; rfl

set_option maxHeartbeats 400000 in
set_option maxRecDepth 100000 in
theorem walk_big (a0 a1 : Bool) (a : Option Addr) (n cap : Nat) (w : World) (hle : 1048576 < n) :
    Calls Yba.prog 3 #[.bool a0, .bool a1, .slice a n cap] w fun e w' => e = .returned (.bool true) ∧ Below w.heap.size w w' := by
  have hle' : (1048576 : Int) < (n : Int) := by omega
  go_enter Yba.func3, Yba.ntmps3
  go_wp2
  go_ret
  exact ⟨rfl, Below.refl _ _⟩

set_option maxHeartbeats 2000000 in
set_option maxRecDepth 100000 in
theorem walk_zero (a0 a1 : Bool) (a : Option Addr) (cap : Nat) (w : World) :
    Calls Yba.prog 3 #[.bool a0, .bool a1, .slice a 0 cap] w fun e w' => e = .returned (.bool true) ∧ Below w.heap.size w w' := by
  have hmk : ∀ w : World, (Instr.makeSlice 24 (.int .i64 0) (.int .i64 0)).run Yba.prog w = .ok (.slice (some ⟨w.heap.size, 0, none⟩) 0 0) (w.alloc (.cells (madeCells #[.pointer none] 0) 23)) := fun w => run_make_row' (P := Yba.prog) 24 23 (.pointer none) 8 Yba.underlying24 pinfo23 rfl .i64 .i64 0 (by omega) (by omega) w
  go_enter Yba.func3, Yba.ntmps3
  go_upto_region 3 with fail
  go_cut [7] (fun p wx => p = .pointer (some ⟨w.heap.size + 3, 0, none⟩) ∧ Hid (Pool w wx))
  case first =>
    go_wp2_with (first
      | ((with_reducible refine wpList_build_run rfl 102 _ rfl [(0, .string ⟨#[97]⟩)] ?_ _ (build_name _ _) ?_); exact rfl)
      | ((with_reducible refine wpList_build_run rfl 102 _ rfl [(0, .string ⟨#[98]⟩)] ?_ _ (build_name _ _) ?_); exact rfl)
      | ((with_reducible refine wpList_build_run rfl 102 _ rfl [(0, .string ⟨#[99]⟩)] ?_ _ (build_name _ _) ?_); exact rfl)
      | ((with_reducible refine wpList_box_run rfl 102 _ rfl (.agg (Z ⟨#[97]⟩ none none 0 0)) ?_ _ _ (box_Z _ _ _ _ _ _) ?_); exact rfl)
      | ((with_reducible refine wpList_box_run rfl 102 _ rfl (.agg (Z ⟨#[98]⟩ none none 0 0)) ?_ _ _ (box_Z _ _ _ _ _ _) ?_); exact rfl)
      | ((with_reducible refine wpList_box_run rfl 102 _ rfl (.agg (Z ⟨#[99]⟩ none none 0 0)) ?_ _ _ (box_Z _ _ _ _ _ _) ?_); exact rfl))
    go_meet
    case rel => exact ⟨rfl, pool_laid w _ _ _⟩
  case rest =>
    obtain ⟨rfl, HP⟩ := hcut
    go_upto_region 5 with fail
    go_cut [32] (fun t wx => t = .bool (!a1) ∧ wx = wc)
    case first =>
      cases a1
      all_goals
        go_wp2_with fail
        go_meet
        case rel => exact ⟨rfl, rfl⟩
    case rest =>
      obtain ⟨rfl, rfl⟩ := hcut
      go_upto_if 32 with fail
      go_cut [8] (fun l wx => ∃ lo, l = .slice lo 0 0 ∧ Hid (PoolB w wx))
      case first =>
        cases a1
        · go_wp2_with fail
          go_loopg [9] 0 (fun g i wr => i = .int .i64 0 ∧ Hid (PoolB w wr))
          case atStart => exact ⟨rfl, poolB_alloc (poolB_of HP.out) _⟩
          case round =>
            obtain ⟨rfl, HB⟩ := hrel
            go_wp2_with fail
            go_meet
            case rel => exact ⟨_, rfl, HB⟩
        · go_wp2_with fail
          go_meet
          case rel => exact ⟨_, rfl, poolB_of HP.out⟩
      case rest =>
        clear HP hmk
        obtain ⟨lo, rfl, HP⟩ := hcut
        obtain ⟨wd, rfl⟩ : ∃ wd : World, wd = wc := ⟨_, rfl⟩
        have q0 := HP.out.c0
        have q1 := HP.out.c1
        have n23 := neq23
        have n107 := neq107
        have e24 := fun (w : World) (a : Option Addr) (l c : Nat) => Lib.run_eql_slice_nil (P := Yba.prog) w 24 23 a l c 0 0 Yba.underlying24
        cases a0
        · go_upto_region 15 with fail
          go_cut [12] (fun s wx => s = .pointer (some ⟨wd.heap.size + 1, 0, none⟩) ∧ wx.cell? ⟨wd.heap.size + 1, 2, none⟩ = some (.pointer none) ∧ wx.cell? ⟨wd.heap.size + 1, 3, none⟩ = some (.slice (some ⟨wd.heap.size, 0, none⟩) 2 2) ∧
            wx.cell? ⟨wd.heap.size, 0, none⟩ = some (.pointer (some ⟨w.heap.size, 0, none⟩)) ∧ wx.cell? ⟨wd.heap.size, 1, none⟩ = some (.pointer (some ⟨w.heap.size + 1, 0, none⟩)) ∧ Hid (PoolB w wx))
          case first =>
            go_wp2_with (first
              | ((with_reducible refine wpList_build_run rfl 102 _ rfl [(0, .string ⟨#[115]⟩), (2, .pointer none), (3, .slice (some ⟨wd.heap.size, 0, none⟩) 2 2)] ?_ _ (build_all _ _ _ _ _ _) ?_); exact rfl)
              | ((with_reducible refine wpList_box_run rfl 102 _ rfl (.agg (Z ⟨#[115]⟩ none (some ⟨wd.heap.size, 0, none⟩) 2 2)) ?_ _ _ (box_Z _ _ _ _ _ _) ?_); exact rfl))
            go_meet
            case rel =>
              have L := laid0_false HP.out ⟨#[115]⟩ none rfl
              exact ⟨by simp, L.2.1, L.2.2.1, L.2.2.2.1, L.2.2.2.2, L.1⟩
          case rest =>
            obtain ⟨rfl, s2, s3, o0, o1, HL⟩ := hcut
            have c0 := HL.out.c0
            have c1 := HL.out.c1
            clear q0 q1 HP
            go_wp2
            go_quiet (fail)
            go_wp2
            go_loopg [15] 0 (fun g i wr => ∃ q, i = .int .i64 0 ∧ wr = wc.drewN q)
            case atStart => exact ⟨_, rfl, rfl⟩
            case round =>
              obtain ⟨q, rfl, rfl⟩ := hrel
              go_wp2
              go_ret
              exact ⟨rfl, below_drewN HL.out.bel _⟩
        · go_upto_region 15 with (first
            | ((with_reducible refine wpList_build_run rfl 102 _ rfl [(0, .string ⟨#[112]⟩), (3, .slice lo 0 0)] ?_ _ (build_line _ _ _ _ _) ?_); exact rfl)
            | ((with_reducible refine wpList_box_run rfl 102 _ rfl (.agg (Z ⟨#[112]⟩ none lo 0 0)) ?_ _ _ (box_Z _ _ _ _ _ _) ?_); exact rfl))
          go_cut [12] (fun s wx => s = .pointer (some ⟨wd.heap.size + 1 + 1, 0, none⟩) ∧ wx.cell? ⟨wd.heap.size + 1 + 1, 2, none⟩ = some (.pointer (some ⟨wd.heap.size + 1, 0, none⟩)) ∧ wx.cell? ⟨wd.heap.size + 1 + 1, 3, none⟩ = some (.slice (some ⟨wd.heap.size, 0, none⟩) 2 2) ∧
            wx.cell? ⟨wd.heap.size, 0, none⟩ = some (.pointer (some ⟨w.heap.size, 0, none⟩)) ∧ wx.cell? ⟨wd.heap.size, 1, none⟩ = some (.pointer (some ⟨w.heap.size + 1, 0, none⟩)) ∧
            wx.cell? ⟨wd.heap.size + 1, 2, none⟩ = some (.pointer none) ∧ wx.cell? ⟨wd.heap.size + 1, 3, none⟩ = some (.slice lo 0 0) ∧ Hid (PoolB w wx))
          case first =>
            go_wp2_with (first
              | ((with_reducible refine wpList_build_run rfl 102 _ rfl [(0, .string ⟨#[115]⟩), (2, .pointer (some ⟨wd.heap.size + 1, 0, none⟩)), (3, .slice (some ⟨wd.heap.size, 0, none⟩) 2 2)] ?_ _ (build_all _ _ _ _ _ _) ?_); exact rfl)
              | ((with_reducible refine wpList_box_run rfl 102 _ rfl (.agg (Z ⟨#[115]⟩ (some ⟨wd.heap.size + 1, 0, none⟩) (some ⟨wd.heap.size, 0, none⟩) 2 2)) ?_ _ _ (box_Z _ _ _ _ _ _) ?_); exact rfl))
            go_meet
            case rel =>
              have L := laid0_true HP.out ⟨#[115]⟩ ⟨#[112]⟩ lo 0 rfl
              exact ⟨by simp, L.2.1, L.2.2.1, L.2.2.2.1, L.2.2.2.2.1, L.2.2.2.2.2.1, L.2.2.2.2.2.2, L.1⟩
          case rest =>
            obtain ⟨rfl, s2, s3, o0, o1, p2, p3, HL⟩ := hcut
            have c0 := HL.out.c0
            have c1 := HL.out.c1
            clear q0 q1 HP
            go_wp2
            go_loopg [14] 0 (fun g i wr => i = .int .i64 0 ∧ wr = wc)
            case atStart => exact ⟨rfl, rfl⟩
            case round =>
              obtain ⟨rfl, rfl⟩ := hrel
              go_wp2
              go_quiet (fail)
              go_wp2
              go_quiet (fail)
              go_wp2
              go_quiet (fail)
              go_wp2
              go_loopg [15] 0 (fun g i wr => i = .int .i64 0 ∧ Hid (PoolB w wr))
              case atStart => exact ⟨rfl, ⟨below_drewN HL.out.bel _, HL.out.size, HL.out.c0, HL.out.c1, HL.out.c2⟩⟩
              case round =>
                obtain ⟨rfl, HE⟩ := hrel
                go_wp2
                go_ret
                exact ⟨rfl, HE.out.bel⟩
end Go.Proofs.Ybulkdpzu

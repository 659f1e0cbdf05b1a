import Derived.Test.YbulkdqbySt
import Derived.Test.YbulkdqbyEqW
import Derived.Deep.DeepCutAuto
import Derived.Deep.RegionHeld3
import Derived.Deep.RegionWith
namespace Go.Proofs.Ybulkdqby
open Go.RowKit

/-- The fields of the law's struct that are read behind the first test. -/
structure Sb (w wx : World) (pe tm dl pl lr ln ha ti ss lt : Int) (su lo he : Bool) : Prop where
  c0 : wx.cell? ⟨w.heap.size, 0, none⟩ = some (.int .u32 pe)
  c1 : wx.cell? ⟨w.heap.size, 1, none⟩ = some (.int .i64 tm)
  c4 : wx.cell? ⟨w.heap.size, 4, none⟩ = some (.int .i64 dl)
  c5 : wx.cell? ⟨w.heap.size, 5, none⟩ = some (.bool su)
  c6 : wx.cell? ⟨w.heap.size, 6, none⟩ = some (.int .i64 pl)
  c7 : wx.cell? ⟨w.heap.size, 7, none⟩ = some (.int .u64 lr)
  c8 : wx.cell? ⟨w.heap.size, 8, none⟩ = some (.int .u64 ln)
  c9 : wx.cell? ⟨w.heap.size, 9, none⟩ = some (.int .i64 ha)
  c10 : wx.cell? ⟨w.heap.size, 10, none⟩ = some (.int .i64 ti)
  c11 : wx.cell? ⟨w.heap.size, 11, none⟩ = some (.bool lo)
  c12 : wx.cell? ⟨w.heap.size, 12, none⟩ = some (.int .i64 ss)
  c13 : wx.cell? ⟨w.heap.size, 13, none⟩ = some (.int .i64 lt)
  c14 : wx.cell? ⟨w.heap.size, 14, none⟩ = some (.bool he)
  size : wx.heap.size = w.heap.size + 1
  bel : Below w.heap.size w wx
theorem sb_made (w : World) (pe tm fl dl pl lr ln ha ti ss lt : Int) (sf su lo he : Bool) :
    Sb w (w.alloc (.cells #[.int .u32 pe, .int .i64 tm, .int .i64 fl, .bool sf, .int .i64 dl, .bool su, .int .i64 pl, .int .u64 lr, .int .u64 ln, .int .i64 ha, .int .i64 ti, .bool lo, .int .i64 ss, .int .i64 lt, .bool he] 25)) pe tm dl pl lr ln ha ti ss lt su lo he := by
  refine ⟨?_, ?_, ?_, ?_, ?_, ?_, ?_, ?_, ?_, ?_, ?_, ?_, ?_, by simp, (Below.refl _ _).alloc (Nat.le_refl _) _⟩ <;> (rw [World.cell?_alloc_at _ _ _ _ rfl]; rfl)

theorem keep13 {W : World} {H : Nat} {v0 v1 v4 v5 v6 v7 v8 v9 v10 v11 v12 v13 v14 : Value} (h : W.cell? ⟨H, 0, none⟩ = some v0 ∧ W.cell? ⟨H, 1, none⟩ = some v1 ∧ W.cell? ⟨H, 4, none⟩ = some v4 ∧ W.cell? ⟨H, 5, none⟩ = some v5 ∧ W.cell? ⟨H, 6, none⟩ = some v6 ∧ W.cell? ⟨H, 7, none⟩ = some v7 ∧ W.cell? ⟨H, 8, none⟩ = some v8 ∧ W.cell? ⟨H, 9, none⟩ = some v9 ∧ W.cell? ⟨H, 10, none⟩ = some v10 ∧ W.cell? ⟨H, 11, none⟩ = some v11 ∧ W.cell? ⟨H, 12, none⟩ = some v12 ∧ W.cell? ⟨H, 13, none⟩ = some v13 ∧ W.cell? ⟨H, 14, none⟩ = some v14) (hl : H < W.heap.size) (o : Obj) : (W.alloc o).cell? ⟨H, 0, none⟩ = some v0 ∧ (W.alloc o).cell? ⟨H, 1, none⟩ = some v1 ∧ (W.alloc o).cell? ⟨H, 4, none⟩ = some v4 ∧ (W.alloc o).cell? ⟨H, 5, none⟩ = some v5 ∧ (W.alloc o).cell? ⟨H, 6, none⟩ = some v6 ∧ (W.alloc o).cell? ⟨H, 7, none⟩ = some v7 ∧ (W.alloc o).cell? ⟨H, 8, none⟩ = some v8 ∧ (W.alloc o).cell? ⟨H, 9, none⟩ = some v9 ∧ (W.alloc o).cell? ⟨H, 10, none⟩ = some v10 ∧ (W.alloc o).cell? ⟨H, 11, none⟩ = some v11 ∧ (W.alloc o).cell? ⟨H, 12, none⟩ = some v12 ∧ (W.alloc o).cell? ⟨H, 13, none⟩ = some v13 ∧ (W.alloc o).cell? ⟨H, 14, none⟩ = some v14 := by
  obtain ⟨h0, h1, h4, h5, h6, h7, h8, h9, h10, h11, h12, h13, h14⟩ := h
  refine ⟨?_, ?_, ?_, ?_, ?_, ?_, ?_, ?_, ?_, ?_, ?_, ?_, ?_⟩ <;> (rw [World.cell?_alloc_past _ _ _ hl]; assumption)
theorem keep13d {W : World} {H : Nat} {v0 v1 v4 v5 v6 v7 v8 v9 v10 v11 v12 v13 v14 : Value} (h : W.cell? ⟨H, 0, none⟩ = some v0 ∧ W.cell? ⟨H, 1, none⟩ = some v1 ∧ W.cell? ⟨H, 4, none⟩ = some v4 ∧ W.cell? ⟨H, 5, none⟩ = some v5 ∧ W.cell? ⟨H, 6, none⟩ = some v6 ∧ W.cell? ⟨H, 7, none⟩ = some v7 ∧ W.cell? ⟨H, 8, none⟩ = some v8 ∧ W.cell? ⟨H, 9, none⟩ = some v9 ∧ W.cell? ⟨H, 10, none⟩ = some v10 ∧ W.cell? ⟨H, 11, none⟩ = some v11 ∧ W.cell? ⟨H, 12, none⟩ = some v12 ∧ W.cell? ⟨H, 13, none⟩ = some v13 ∧ W.cell? ⟨H, 14, none⟩ = some v14) : W.drew.cell? ⟨H, 0, none⟩ = some v0 ∧ W.drew.cell? ⟨H, 1, none⟩ = some v1 ∧ W.drew.cell? ⟨H, 4, none⟩ = some v4 ∧ W.drew.cell? ⟨H, 5, none⟩ = some v5 ∧ W.drew.cell? ⟨H, 6, none⟩ = some v6 ∧ W.drew.cell? ⟨H, 7, none⟩ = some v7 ∧ W.drew.cell? ⟨H, 8, none⟩ = some v8 ∧ W.drew.cell? ⟨H, 9, none⟩ = some v9 ∧ W.drew.cell? ⟨H, 10, none⟩ = some v10 ∧ W.drew.cell? ⟨H, 11, none⟩ = some v11 ∧ W.drew.cell? ⟨H, 12, none⟩ = some v12 ∧ W.drew.cell? ⟨H, 13, none⟩ = some v13 ∧ W.drew.cell? ⟨H, 14, none⟩ = some v14 := h

set_option maxHeartbeats 4000000 in
set_option maxRecDepth 100000 in
/-- The law's own function answers true, and leaves what was there. -/
theorem alaw_walk (pe tm fl dl pl lr ln ha ti ss lt now : Int) (sf su lo he : Bool) (w : World)
    (b1 : -9223372036854775808 ≤ dl) (b2 : dl ≤ 9223372036854775807) (b3 : -9223372036854775808 ≤ ha) (b4 : ha ≤ 9223372036854775807)
    (b5 : -9223372036854775808 ≤ ss) (b6 : ss ≤ 9223372036854775807) (b7 : -9223372036854775808 ≤ lt) (b8 : lt ≤ 9223372036854775807) (b9 : -9223372036854775808 ≤ now) (b10 : now ≤ 9223372036854775807) :
    Calls Yba.prog 3 #[.agg #[.int .u32 pe, .int .i64 tm, .int .i64 fl, .bool sf, .int .i64 dl, .bool su, .int .i64 pl, .int .u64 lr, .int .u64 ln, .int .i64 ha, .int .i64 ti, .bool lo, .int .i64 ss, .int .i64 lt, .bool he], .int .i64 now] w fun e w' => e = .returned (.bool true) ∧ Below w.heap.size w w' := by
  go_enter Yba.func3, Yba.ntmps3
  go_upto_if 13 with fail
  have HS0 := sb_made w pe tm fl dl pl lr ln ha ti ss lt sf su lo he
  generalize w.alloc (.cells #[.int .u32 pe, .int .i64 tm, .int .i64 fl, .bool sf, .int .i64 dl, .bool su, .int .i64 pl, .int .u64 lr, .int .u64 ln, .int .i64 ha, .int .i64 ti, .bool lo, .int .i64 ss, .int .i64 lt, .bool he] 25) = W0 at HS0 ⊢
  have HS : Hid (Sb w W0 pe tm dl pl lr ln ha ti ss lt su lo he) := HS0
  have c1 := HS0.c1
  clear HS0
  go_cut [0, 5] (fun v f wx => (∃ f', f = .int .i64 f') ∧ W0 = wx)
  case first =>
    cases sf
    all_goals
      go_wp2_with fail
      go_meet
      case rel => exact ⟨⟨_, rfl⟩, rfl⟩
  case rest =>
    obtain ⟨⟨f, rfl⟩, rfl⟩ := hcut
    have c0 := HS.out.c0
    have c4 := HS.out.c4
    have c5 := HS.out.c5
    have c6 := HS.out.c6
    have c7 := HS.out.c7
    have c8 := HS.out.c8
    have c9 := HS.out.c9
    have c10 := HS.out.c10
    have c11 := HS.out.c11
    have c12 := HS.out.c12
    have c13 := HS.out.c13
    have c14 := HS.out.c14
    have hsz := HS.out.size
    have hl : w.heap.size < W0.heap.size := by omega
    have S0 : Hid (W0.cell? ⟨w.heap.size, 0, none⟩ = some (.int .u32 pe) ∧ W0.cell? ⟨w.heap.size, 1, none⟩ = some (.int .i64 tm) ∧ W0.cell? ⟨w.heap.size, 4, none⟩ = some (.int .i64 dl) ∧ W0.cell? ⟨w.heap.size, 5, none⟩ = some (.bool su) ∧ W0.cell? ⟨w.heap.size, 6, none⟩ = some (.int .i64 pl) ∧ W0.cell? ⟨w.heap.size, 7, none⟩ = some (.int .u64 lr) ∧ W0.cell? ⟨w.heap.size, 8, none⟩ = some (.int .u64 ln) ∧ W0.cell? ⟨w.heap.size, 9, none⟩ = some (.int .i64 ha) ∧ W0.cell? ⟨w.heap.size, 10, none⟩ = some (.int .i64 ti) ∧ W0.cell? ⟨w.heap.size, 11, none⟩ = some (.bool lo) ∧ W0.cell? ⟨w.heap.size, 12, none⟩ = some (.int .i64 ss) ∧ W0.cell? ⟨w.heap.size, 13, none⟩ = some (.int .i64 lt) ∧ W0.cell? ⟨w.heap.size, 14, none⟩ = some (.bool he)) := ⟨c0, c1, c4, c5, c6, c7, c8, c9, c10, c11, c12, c13, c14⟩
    go_upto_region 4 with fail
    go_cut [6] (fun p wx => ∃ gA x1 y1 x2 y2 x3 y3 x4 y4, p = .pointer (some ⟨gA, 0, none⟩) ∧ S1 w wx gA (rowW pe tm f x1 y1 su pl lr ln x2 y2 ti lo x3 y3 x4 y4 he))
    case first =>
      go_wp2_with fail
      go_region_held3 (fun w' => w'.cell? ⟨w.heap.size, 0, none⟩ = some (.int .u32 pe) ∧ w'.cell? ⟨w.heap.size, 1, none⟩ = some (.int .i64 tm) ∧ w'.cell? ⟨w.heap.size, 4, none⟩ = some (.int .i64 dl) ∧ w'.cell? ⟨w.heap.size, 5, none⟩ = some (.bool su) ∧ w'.cell? ⟨w.heap.size, 6, none⟩ = some (.int .i64 pl) ∧ w'.cell? ⟨w.heap.size, 7, none⟩ = some (.int .u64 lr) ∧ w'.cell? ⟨w.heap.size, 8, none⟩ = some (.int .u64 ln) ∧ w'.cell? ⟨w.heap.size, 9, none⟩ = some (.int .i64 ha) ∧ w'.cell? ⟨w.heap.size, 10, none⟩ = some (.int .i64 ti) ∧ w'.cell? ⟨w.heap.size, 11, none⟩ = some (.bool lo) ∧ w'.cell? ⟨w.heap.size, 12, none⟩ = some (.int .i64 ss) ∧ w'.cell? ⟨w.heap.size, 13, none⟩ = some (.int .i64 lt) ∧ w'.cell? ⟨w.heap.size, 14, none⟩ = some (.bool he))
        (((with_reducible refine keep13d ?_); (repeat (with_reducible refine keep13 ?_ (by first | omega | (simp only [World.size_alloc]; omega)) _)); exact S0.out))
        ((go_at_call 5; refine (at_time _ _ (by first | exact b1 | exact b3 | exact b5 | exact b7) (by first | exact b2 | exact b4 | exact b6 | exact b8)).mono ?_; rintro e w' ⟨x, y, o1, o2, o3, rfl, rfl⟩))
      go_wp2_with fail
      go_meet
      case rel =>
        refine ⟨_, _, _, _, _, _, _, _, _, ?_, S1.drew (S1.made (by (repeat (with_reducible refine bel_alloc ?_ _)); exact HS.out.bel) (rowW pe tm f _ _ su pl lr ln _ _ ti lo _ _ _ _ he))⟩
        simp only [World.size_alloc, hsz]
    case rest =>
      obtain ⟨gA, x1, y1, x2, y2, x3, y3, x4, y4, rfl, H1⟩ := hcut
      clear S0 hl hsz c0 c1 c4 c5 c6 c7 c8 c9 c10 c11 c12 c13 c14 HS
      go_upto_region 5 with fail
      go_cut [7] (fun p wx => ∃ gT x5 y5, p = .pointer (some ⟨gT, 0, none⟩) ∧ S2 w wx gA gT (rowW pe tm f x1 y1 su pl lr ln x2 y2 ti lo x3 y3 x4 y4 he) #[.int .u64 x5, .int .i64 y5, .pointer none])
      case first =>
        have HH : Hid (S1 w _ gA (rowW pe tm f x1 y1 su pl lr ln x2 y2 ti lo x3 y3 x4 y4 he)) := H1
        clear H1
        go_wp2_with (go_at_call 5; refine (at_time _ _ b9 b10).mono ?_; rintro e w' ⟨x5, y5, o1, o2, o3, rfl, rfl⟩)
        go_meet
        case rel => exact ⟨_, _, _, by simp only [World.size_alloc], S2.made (((HH.out.alloc _).alloc _).alloc _) _⟩
      case rest =>
        clear H1
        obtain ⟨gT, x5, y5, rfl, H2⟩ := hcut
        go_upto_region 6 with fail
        go_cut [8] (fun p wx => ∃ gB, p = .pointer (some ⟨gB, 0, none⟩) ∧ S3 w wx gA gT gB (rowW pe tm f x1 y1 su pl lr ln x2 y2 ti lo x3 y3 x4 y4 he) #[.int .u64 x5, .int .i64 y5, .pointer none] (rowW pe tm f x1 y1 su pl lr ln x2 y2 ti lo x3 y3 x4 y4 he))
        case first =>
          have HH : Hid (S2 w wc gA gT (rowW pe tm f x1 y1 su pl lr ln x2 y2 ti lo x3 y3 x4 y4 he) #[.int .u64 x5, .int .i64 y5, .pointer none]) := H2
          clear H2
          go_wp2_with (first
            | (refine wpList_load_row rfl 36 _ rfl gA rfl 36 (rowW pe tm f x1 y1 su pl lr ln x2 y2 ti lo x3 y3 x4 y4 he) (0, 0) _ HH.out.s.hA Yba.underlying36 rfl (by rw [size_rowW]; exact info36) ?_)
            | (refine wpList_store_row rfl 36 _ _ rfl wc.heap.size (rowW pe tm f x1 y1 su pl lr ln x2 y2 ti lo x3 y3 x4 y4 he) rfl rfl 36 _ (new_alloc _ _) (by rw [size_rowW]; exact info36) rfl one_rowW ?_))
          go_meet
          case rel => exact ⟨_, rfl, S3.made HH.out _ _⟩
        case rest =>
          clear H2
          obtain ⟨gB, rfl, H3⟩ := hcut
          go_upto_region 7 with fail
          go_cut [] (fun wx => S3 w wx gA gT gB (rowW pe (gr tm) (bif lo then gr f else f) x1 y1 su pl lr ln x2 y2 0 false (bif tm == f then x5 else x3) (bif tm == f then y5 else y3) x5 y5 he) #[.int .u64 x5, .int .i64 y5, .pointer none] (rowW pe tm f x1 y1 su pl lr ln x2 y2 ti lo x3 y3 x4 y4 he))
          case first =>
            have HH : Hid (S3 w wc gA gT gB (rowW pe tm f x1 y1 su pl lr ln x2 y2 ti lo x3 y3 x4 y4 he) #[.int .u64 x5, .int .i64 y5, .pointer none] (rowW pe tm f x1 y1 su pl lr ln x2 y2 ti lo x3 y3 x4 y4 he)) := H3
            have t0 : wc.cell? ⟨gT, 0, none⟩ = some (.int .u64 x5) := cell_of_row wc gT 0 _ 31 (0, 0) H3.s.hT
            have t1 : wc.cell? ⟨gT, 1, none⟩ = some (.int .i64 y5) := cell_of_row wc gT 1 _ 31 (0, 0) H3.s.hT
            have t2 : wc.cell? ⟨gT, 2, none⟩ = some (.pointer none) := cell_of_row wc gT 2 _ 31 (0, 0) H3.s.hT
            clear H3
            go_wp2_with (go_at_call 6; refine (mistaken_any _ _ _ _ _ _ _ _ _ _ _ _ _ _ _ _ _ _ _ _ gA _ HH.out.s.s.hA).mono ?_; rintro e w' ⟨v, rfl, m⟩; have HM : Hid (Mz gA wc w' (rowW pe (gr tm) (bif lo then gr f else f) x1 y1 su pl lr ln x2 y2 0 false (bif tm == f then x5 else x3) (bif tm == f then y5 else y3) x5 y5 he)) := m; clear m)
            go_meet
            case rel => exact HH.out.turned HM.out
          case rest =>
            clear H3
            have H4 := hcut
            clear hcut
            go_upto_region 8 with fail
            go_cut [9] (fun p wx => ∃ gC, p = .pointer (some ⟨gC, 0, none⟩) ∧ S4 w wx gA gT gB gC (rowW pe (gr tm) (bif lo then gr f else f) x1 y1 su pl lr ln x2 y2 0 false (bif tm == f then x5 else x3) (bif tm == f then y5 else y3) x5 y5 he) #[.int .u64 x5, .int .i64 y5, .pointer none] (rowW pe tm f x1 y1 su pl lr ln x2 y2 ti lo x3 y3 x4 y4 he) (rowW pe tm f x1 y1 su pl lr ln x2 y2 ti lo x3 y3 x4 y4 he))
            case first =>
              have HH : Hid (S3 w wc gA gT gB (rowW pe (gr tm) (bif lo then gr f else f) x1 y1 su pl lr ln x2 y2 0 false (bif tm == f then x5 else x3) (bif tm == f then y5 else y3) x5 y5 he) #[.int .u64 x5, .int .i64 y5, .pointer none] (rowW pe tm f x1 y1 su pl lr ln x2 y2 ti lo x3 y3 x4 y4 he)) := H4
              clear H4
              go_wp2_with (first
                | (refine wpList_load_row rfl 36 _ rfl gB rfl 36 (rowW pe tm f x1 y1 su pl lr ln x2 y2 ti lo x3 y3 x4 y4 he) (0, 0) _ HH.out.hB Yba.underlying36 rfl (by rw [size_rowW]; exact info36) ?_)
                | (refine wpList_store_row rfl 36 _ _ rfl wc.heap.size (rowW pe tm f x1 y1 su pl lr ln x2 y2 ti lo x3 y3 x4 y4 he) rfl rfl 36 _ (new_alloc _ _) (by rw [size_rowW]; exact info36) rfl one_rowW ?_))
              go_meet
              case rel => exact ⟨_, rfl, S4.made HH.out _ _⟩
            case rest =>
              clear H4
              obtain ⟨gC, rfl, H5⟩ := hcut
              have HH : Hid (S4 w wc gA gT gB gC (rowW pe (gr tm) (bif lo then gr f else f) x1 y1 su pl lr ln x2 y2 0 false (bif tm == f then x5 else x3) (bif tm == f then y5 else y3) x5 y5 he) #[.int .u64 x5, .int .i64 y5, .pointer none] (rowW pe tm f x1 y1 su pl lr ln x2 y2 ti lo x3 y3 x4 y4 he) (rowW pe tm f x1 y1 su pl lr ln x2 y2 ti lo x3 y3 x4 y4 he)) := H5
              have t0 : wc.cell? ⟨gT, 0, none⟩ = some (.int .u64 x5) := cell_of_row wc gT 0 _ 31 (0, 0) H5.s.s.hT
              have t1 : wc.cell? ⟨gT, 1, none⟩ = some (.int .i64 y5) := cell_of_row wc gT 1 _ 31 (0, 0) H5.s.s.hT
              have t2 : wc.cell? ⟨gT, 2, none⟩ = some (.pointer none) := cell_of_row wc gT 2 _ 31 (0, 0) H5.s.s.hT
              have j1 : wc.cell? ⟨gB, 1, none⟩ = some (.int .i64 tm) := cell_of_row wc gB 1 _ 36 (0, 0) H5.s.hB
              have j2 : wc.cell? ⟨gB, 2, none⟩ = some (.int .i64 f) := cell_of_row wc gB 2 _ 36 (0, 0) H5.s.hB
              have j15 : wc.cell? ⟨gB, 15, none⟩ = some (.bool lo) := cell_of_row wc gB 15 _ 36 (0, 0) H5.s.hB
              have k1 : wc.cell? ⟨gC, 1, none⟩ = some (.int .i64 tm) := cell_of_row wc gC 1 _ 36 (0, 0) H5.hC
              have z1 := frozen_of_row wc gC 1 _ 36 H5.hC
              have k2 : wc.cell? ⟨gC, 2, none⟩ = some (.int .i64 f) := cell_of_row wc gC 2 _ 36 (0, 0) H5.hC
              have z2 := frozen_of_row wc gC 2 _ 36 H5.hC
              have k14 : wc.cell? ⟨gC, 14, none⟩ = some (.int .i64 ti) := cell_of_row wc gC 14 _ 36 (0, 0) H5.hC
              have z14 := frozen_of_row wc gC 14 _ 36 H5.hC
              have k15 : wc.cell? ⟨gC, 15, none⟩ = some (.bool lo) := cell_of_row wc gC 15 _ 36 (0, 0) H5.hC
              have z15 := frozen_of_row wc gC 15 _ 36 H5.hC
              have k16 : wc.cell? ⟨gC, 16, none⟩ = some (.int .u64 x3) := cell_of_row wc gC 16 _ 36 (0, 0) H5.hC
              have z16 := frozen_of_row wc gC 16 _ 36 H5.hC
              have k17 : wc.cell? ⟨gC, 17, none⟩ = some (.int .i64 y3) := cell_of_row wc gC 17 _ 36 (0, 0) H5.hC
              have z17 := frozen_of_row wc gC 17 _ 36 H5.hC
              have k18 : wc.cell? ⟨gC, 18, none⟩ = some (.pointer none) := cell_of_row wc gC 18 _ 36 (0, 0) H5.hC
              have z18 := frozen_of_row wc gC 18 _ 36 H5.hC
              have k19 : wc.cell? ⟨gC, 19, none⟩ = some (.int .u64 x4) := cell_of_row wc gC 19 _ 36 (0, 0) H5.hC
              have z19 := frozen_of_row wc gC 19 _ 36 H5.hC
              have k20 : wc.cell? ⟨gC, 20, none⟩ = some (.int .i64 y4) := cell_of_row wc gC 20 _ 36 (0, 0) H5.hC
              have z20 := frozen_of_row wc gC 20 _ 36 H5.hC
              have k21 : wc.cell? ⟨gC, 21, none⟩ = some (.pointer none) := cell_of_row wc gC 21 _ 36 (0, 0) H5.hC
              have z21 := frozen_of_row wc gC 21 _ 36 H5.hC
              have n1 : ¬ gT = gC := by have := H5.s.aB; have := H5.aC; omega
              have n2 : ¬ gC = gT := by omega
              have n3 : ¬ gB = gC := by have := H5.aC; omega
              have n4 : ¬ gC = gB := by omega
              clear H5
              cases ht : (tm == f)
              all_goals cases lo
              all_goals
                go_wp2_with (go_at_call 7; refine (agrow_any _ _).mono ?_; rintro e w' ⟨rfl, rfl⟩)
              · have m := (S4.set (S4.set (S4.set (S4.set (S4.set HH.out 19 (.int .u64 x5)) 20 (.int .i64 y5)) 21 (.pointer none)) 1 (.int .i64 (gr tm))) 14 (.int .i64 0))
                simp only [set_x4, set_y4, set_z4, set_tm, set_ti, ht, cond_false] at m
                have eq := eql36 pe (gr tm) f x1 y1 su pl lr ln x2 y2 0 false x3 y3 x5 y5 he
                have M : Hid (S4 w _ gA gT gB gC (rowW pe (gr tm) f x1 y1 su pl lr ln x2 y2 0 false x3 y3 x5 y5 he) #[.int .u64 x5, .int .i64 y5, .pointer none] (rowW pe tm f x1 y1 su pl lr ln x2 y2 ti false x3 y3 x4 y4 he) (rowW pe (gr tm) f x1 y1 su pl lr ln x2 y2 0 false x3 y3 x5 y5 he)) := m
                clear m
                refine wp_region_quiet_lit (by kernel_rfl) (by kernel_rfl) ?_
                quiet_step (fail)
                quiet_step (fail)
                refine quiet_load_row 36 _ rfl rfl gA rfl 36 (rowW pe (gr tm) f x1 y1 su pl lr ln x2 y2 0 false x3 y3 x5 y5 he) _ (row_drewN M.out.s.s.s.hA) Yba.underlying36 rfl (by rw [size_rowW]; exact info36) ?_
                refine quiet_load_row 36 _ rfl rfl gC rfl 36 (rowW pe (gr tm) f x1 y1 su pl lr ln x2 y2 0 false x3 y3 x5 y5 he) _ (row_drewN M.out.hC) Yba.underlying36 rfl (by rw [size_rowW]; exact info36) ?_
                quiet_step (fail)
                quiet_step (fail)
                refine wpQuiet_nil ?_
                intro w2 hw2
                obtain ⟨nq, rfl⟩ := hw2
                go_wp2
                go_ret
                exact ⟨rfl, below_drewN M.out.s.s.s.bel _⟩
              · have m := (S4.set (S4.set (S4.set (S4.set (S4.set (S4.set (S4.set HH.out 19 (.int .u64 x5)) 20 (.int .i64 y5)) 21 (.pointer none)) 2 (.int .i64 (gr f))) 15 (.bool false)) 1 (.int .i64 (gr tm))) 14 (.int .i64 0))
                simp only [set_x4, set_y4, set_z4, set_tm, set_ti, set_f, set_lo, ht, cond_true, cond_false] at m
                have eq := eql36 pe (gr tm) (gr f) x1 y1 su pl lr ln x2 y2 0 false x3 y3 x5 y5 he
                have M : Hid (S4 w _ gA gT gB gC (rowW pe (gr tm) (gr f) x1 y1 su pl lr ln x2 y2 0 false x3 y3 x5 y5 he) #[.int .u64 x5, .int .i64 y5, .pointer none] (rowW pe tm f x1 y1 su pl lr ln x2 y2 ti true x3 y3 x4 y4 he) (rowW pe (gr tm) (gr f) x1 y1 su pl lr ln x2 y2 0 false x3 y3 x5 y5 he)) := m
                clear m
                refine wp_region_quiet_lit (by kernel_rfl) (by kernel_rfl) ?_
                quiet_step (fail)
                quiet_step (fail)
                refine quiet_load_row 36 _ rfl rfl gA rfl 36 (rowW pe (gr tm) (gr f) x1 y1 su pl lr ln x2 y2 0 false x3 y3 x5 y5 he) _ (row_drewN M.out.s.s.s.hA) Yba.underlying36 rfl (by rw [size_rowW]; exact info36) ?_
                refine quiet_load_row 36 _ rfl rfl gC rfl 36 (rowW pe (gr tm) (gr f) x1 y1 su pl lr ln x2 y2 0 false x3 y3 x5 y5 he) _ (row_drewN M.out.hC) Yba.underlying36 rfl (by rw [size_rowW]; exact info36) ?_
                quiet_step (fail)
                quiet_step (fail)
                refine wpQuiet_nil ?_
                intro w2 hw2
                obtain ⟨nq, rfl⟩ := hw2
                go_wp2
                go_ret
                exact ⟨rfl, below_drewN M.out.s.s.s.bel _⟩
              · have m := (S4.set (S4.set (S4.set (S4.set (S4.set (S4.set (S4.set (S4.set HH.out 16 (.int .u64 x5)) 17 (.int .i64 y5)) 18 (.pointer none)) 19 (.int .u64 x5)) 20 (.int .i64 y5)) 21 (.pointer none)) 1 (.int .i64 (gr tm))) 14 (.int .i64 0))
                simp only [set_x4, set_y4, set_z4, set_tm, set_ti, set_x3, set_y3, set_z3, ht, cond_true, cond_false] at m
                have eq := eql36 pe (gr tm) f x1 y1 su pl lr ln x2 y2 0 false x5 y5 x5 y5 he
                have M : Hid (S4 w _ gA gT gB gC (rowW pe (gr tm) f x1 y1 su pl lr ln x2 y2 0 false x5 y5 x5 y5 he) #[.int .u64 x5, .int .i64 y5, .pointer none] (rowW pe tm f x1 y1 su pl lr ln x2 y2 ti false x3 y3 x4 y4 he) (rowW pe (gr tm) f x1 y1 su pl lr ln x2 y2 0 false x5 y5 x5 y5 he)) := m
                clear m
                refine wp_region_quiet_lit (by kernel_rfl) (by kernel_rfl) ?_
                quiet_step (fail)
                quiet_step (fail)
                refine quiet_load_row 36 _ rfl rfl gA rfl 36 (rowW pe (gr tm) f x1 y1 su pl lr ln x2 y2 0 false x5 y5 x5 y5 he) _ (row_drewN M.out.s.s.s.hA) Yba.underlying36 rfl (by rw [size_rowW]; exact info36) ?_
                refine quiet_load_row 36 _ rfl rfl gC rfl 36 (rowW pe (gr tm) f x1 y1 su pl lr ln x2 y2 0 false x5 y5 x5 y5 he) _ (row_drewN M.out.hC) Yba.underlying36 rfl (by rw [size_rowW]; exact info36) ?_
                quiet_step (fail)
                quiet_step (fail)
                refine wpQuiet_nil ?_
                intro w2 hw2
                obtain ⟨nq, rfl⟩ := hw2
                go_wp2
                go_ret
                exact ⟨rfl, below_drewN M.out.s.s.s.bel _⟩
              · have m := (S4.set (S4.set (S4.set (S4.set (S4.set (S4.set (S4.set (S4.set (S4.set (S4.set HH.out 16 (.int .u64 x5)) 17 (.int .i64 y5)) 18 (.pointer none)) 19 (.int .u64 x5)) 20 (.int .i64 y5)) 21 (.pointer none)) 2 (.int .i64 (gr f))) 15 (.bool false)) 1 (.int .i64 (gr tm))) 14 (.int .i64 0))
                simp only [set_x4, set_y4, set_z4, set_tm, set_ti, set_x3, set_y3, set_z3, set_f, set_lo, ht, cond_true] at m
                have eq := eql36 pe (gr tm) (gr f) x1 y1 su pl lr ln x2 y2 0 false x5 y5 x5 y5 he
                have M : Hid (S4 w _ gA gT gB gC (rowW pe (gr tm) (gr f) x1 y1 su pl lr ln x2 y2 0 false x5 y5 x5 y5 he) #[.int .u64 x5, .int .i64 y5, .pointer none] (rowW pe tm f x1 y1 su pl lr ln x2 y2 ti true x3 y3 x4 y4 he) (rowW pe (gr tm) (gr f) x1 y1 su pl lr ln x2 y2 0 false x5 y5 x5 y5 he)) := m
                clear m
                refine wp_region_quiet_lit (by kernel_rfl) (by kernel_rfl) ?_
                quiet_step (fail)
                quiet_step (fail)
                refine quiet_load_row 36 _ rfl rfl gA rfl 36 (rowW pe (gr tm) (gr f) x1 y1 su pl lr ln x2 y2 0 false x5 y5 x5 y5 he) _ (row_drewN M.out.s.s.s.hA) Yba.underlying36 rfl (by rw [size_rowW]; exact info36) ?_
                refine quiet_load_row 36 _ rfl rfl gC rfl 36 (rowW pe (gr tm) (gr f) x1 y1 su pl lr ln x2 y2 0 false x5 y5 x5 y5 he) _ (row_drewN M.out.hC) Yba.underlying36 rfl (by rw [size_rowW]; exact info36) ?_
                quiet_step (fail)
                quiet_step (fail)
                refine wpQuiet_nil ?_
                intro w2 hw2
                obtain ⟨nq, rfl⟩ := hw2
                go_wp2
                go_ret
                exact ⟨rfl, below_drewN M.out.s.s.s.bel _⟩
end Go.Proofs.Ybulkdqby

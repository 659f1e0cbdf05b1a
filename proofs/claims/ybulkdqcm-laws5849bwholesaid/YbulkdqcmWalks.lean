import Derived.Test.YbulkdqcmFacts
import Derived.Deep.LoopGhost
import Derived.Deep.DeepCutAuto
import Derived.Deep.QuietTactic
import Derived.BigQuiet
import Derived.WalkSmall
namespace Go.Proofs.Ybulkdqcm
open Go.RowKit

set_option maxHeartbeats 1000000 in
set_option maxRecDepth 100000 in
theorem walk_pos (b off n cap : Nat) (z : Nat → Int) (a1 : Int) (a2 : Bool) (w : World) (hn : 0 < n) (hle : n ≤ 1048576) (hb : b < w.heap.size)
    (hc : ∀ i, i < n → w.cell? ⟨b, off + i, none⟩ = some (.int .i64 (z i))) :
    Calls Yba.prog 3 #[.slice (some ⟨b, off, none⟩) n cap, .int .i64 a1, .bool a2] w fun e w' => e = .returned (.bool true) ∧ Below w.heap.size w w' := by
  have HC : Hid (∀ i, i < n → w.cell? ⟨b, off + i, none⟩ = some (.int .i64 (z i))) := hc
  have z0 := hc 0 hn
  rw [Nat.add_zero] at z0
  clear hc
  have hmk := run_make_row' (P := Yba.prog) 22 3 (.int .i64 0) 8 Yba.underlying22 info3 rfl .i64 .i64 n (by omega) (by omega)
  have hni : (0 : Int) < (n : Int) := by omega
  have hd : decide ((1048576 : Int) < (n : Int)) = false := by simp; omega
  go_enter Yba.func3, Yba.ntmps3
  go_upto_region 3 with fail
  go_cut [2, 21] (fun h t wx => h = .bool a2 ∧ t = .bool a2 ∧ w = wx)
  case first =>
    cases a2
    all_goals
      go_wp2_with fail
      go_meet
      case rel => exact ⟨rfl, rfl, rfl⟩
  case rest =>
    obtain ⟨rfl, rfl, rfl⟩ := hcut
    go_upto_if 21 with fail
    go_cut [1, 2] (fun s h wx => h = .bool a2 ∧ (∃ st : Int, s = .int .i64 st) ∧ w = wx)
    case first =>
      cases a2
      all_goals
        go_wp2_with fail
        go_meet
        case rel => exact ⟨rfl, ⟨_, rfl⟩, rfl⟩
    case rest =>
      obtain ⟨rfl, ⟨st, rfl⟩, rfl⟩ := hcut
      go_upto_if 26 with fail
      go_cut [] (fun wx => Hid (Cp w wx b off n z))
      case first =>
        go_wp2_with ((with_reducible refine wpList_copy_own rfl _ _ 22 22 rfl 3 Yba.underlying22 size3 (w.heap.size + 1) 0 n n ⟨b, off, none⟩ n cap ?_ ?_ (madeCells #[.int .i64 0] n) 3 ?_ (nums n z) ?_ ?_ ?_ (nums_one n z) ?_); exact rfl; exact rfl; exact made_heap w _ n; (rw [nums_length]; simp); exact cp_src _ _ HC.out; (rw [nums_length, size_madeCells]; omega))
        go_meet
        case rel => exact cp_made HC.out _ rfl
      case rest =>
        obtain ⟨wx, HX⟩ : ∃ wx : World, Hid (Cp w wx b off n z) ∧ wx = wc := ⟨wc, hcut, rfl⟩
        clear hcut
        obtain ⟨HX, rfl⟩ := HX
        have box := HX.out.box
        have fz := HX.out.fz
        have y0 : wx.cell? ⟨b, off, none⟩ = some (.int .i64 (z 0)) := by have := HX.out.arg 0 hn; rwa [Nat.add_zero] at this
        have x0 : wx.cell? ⟨w.heap.size + 1, 0, none⟩ = some (.int .i64 (z 0)) := HX.out.row.cell hn
        have p25 := neq25
        have e22 := fun (w : World) (a : Option Addr) (l c : Nat) => Lib.run_eql_slice_nil (P := Yba.prog) w 22 3 a l c 0 0 Yba.underlying22
        have b0 : ((n : Int) == 0) = false := by rw [beq_eq_false_iff_ne]; omega
        clear z0 hmk hd
        by_cases hst : z 0 = st
        · have e1 : (z 0 == st) = true := by rw [beq_iff_eq]; exact hst
          have e2 : (z 0 != st) = false := by rw [hst]; simp
          clear hst
          rcases Nat.lt_or_ge n 2 with hn2 | hn2
          · obtain rfl : n = 1 := by omega
            go_wp2_with (go_at_call 4; refine (passed_one w.heap.size (w.heap.size + 1) st (z 0) _ box fz x0 e2).mono ?_; rintro e w' ⟨rfl, rfl⟩; have HH := hit_made HX.out hb (.slice (some ⟨w.heap.size + 1, 0, none⟩) 0 0); generalize wx.setCell ⟨w.heap.size, 0, none⟩ (.slice (some ⟨w.heap.size + 1, 0, none⟩) 0 0) = we at HH ⊢; have HH2 : Hid (Hit w we b off 1 z (.slice (some ⟨w.heap.size + 1, 0, none⟩) 0 0)) := HH; have box2 := HH.box; clear HH box fz x0 y0 HX)
            go_quiet (fail)
            go_wp2
            go_loopg [11] 0 (fun g i wr => ∃ q, i = .int .i64 0 ∧ wr = we.drewN q)
            case atStart => exact ⟨_, rfl, rfl⟩
            case round =>
              obtain ⟨q, rfl, rfl⟩ := hrel
              go_wp2
              go_ret
              exact ⟨rfl, below_drewN HH2.out.bel _⟩
          · obtain ⟨m, rfl⟩ : ∃ m, n = m + 2 := ⟨n - 2, by omega⟩
            have hm1 : ((m : Int) + 1 != (m : Int) + 2 - 1) = false := by
              have : (m : Int) + 1 = (m : Int) + 2 - 1 := by omega
              rw [← this]; simp
            have hm2 : (0 : Int) < (m : Int) + 1 := by omega
            go_wp2_with (go_at_call 4; refine (passed_more w.heap.size (w.heap.size + 1) m st (z 0) _ (by omega) box fz x0 e2).mono ?_; rintro e w' ⟨rfl, rfl⟩; have HH := hit_made HX.out hb (.slice (some ⟨w.heap.size + 1, 1, none⟩) (m + 1) (m + 1)); generalize wx.setCell ⟨w.heap.size, 0, none⟩ (.slice (some ⟨w.heap.size + 1, 1, none⟩) (m + 1) (m + 1)) = we at HH ⊢; have HH2 : Hid (Hit w we b off (m + 2) z (.slice (some ⟨w.heap.size + 1, 1, none⟩) (m + 1) (m + 1))) := HH; have box2 := HH.box; clear HH box fz x0 y0 HX)
            go_quiet (fail)
            go_wp2
            go_loopg [11] (m + 1) (fun g i wr => ∃ k q : Nat, i = .int .i64 k ∧ k ≤ m + 1 ∧ m + 1 - k ≤ g ∧ wr = we.drewN q)
            case atStart => exact ⟨0, _, rfl, Nat.zero_le _, by omega, rfl⟩
            case round =>
              obtain ⟨k, q, rfl, hk, hg, rfl⟩ := hrel
              by_cases hlt : k < m + 1
              · have r1 : we.cell? ⟨w.heap.size + 1, 1 + k, none⟩ = some (.int .i64 (z (k + 1))) := by rw [Nat.add_comm 1 k]; exact HH2.out.row (k + 1) (by omega)
                have r2 : we.cell? ⟨b, off + (k + 1), none⟩ = some (.int .i64 (z (k + 1))) := HH2.out.arg (k + 1) (by omega)
                have hki : (k : Int) < (m : Int) + 1 := by omega
                have hkj : (k : Int) + 1 < (m : Int) + 2 := by omega
                go_wp2_with fail
                go_quiet (fail)
                go_wp2
                go_roundg (m + 1 - (k + 1))
                case measure => omega
                case rel => exact ⟨k + 1, _, by go_num, by omega, by omega, rfl⟩
              · obtain rfl : k = m + 1 := by omega
                go_wp2
                go_ret
                exact ⟨rfl, below_drewN HH2.out.bel _⟩
        · have e1 : (z 0 == st) = false := by rw [beq_eq_false_iff_ne]; exact hst
          have e2 : (z 0 != st) = true := by rw [bne_iff_ne]; exact hst
          clear hst
          go_wp2_with (go_at_call 4; refine (passed_miss w.heap.size (w.heap.size + 1) n st (z 0) _ hn hle box x0 e2).mono ?_; rintro e w' ⟨rfl, rfl⟩)
          go_quiet (fail)
          go_wp2
          go_loopg [12] n (fun g i wr => ∃ k q : Nat, i = .int .i64 k ∧ k ≤ n ∧ n - k ≤ g ∧ wr = wx.drewN q)
          case atStart => exact ⟨0, _, rfl, Nat.zero_le _, by omega, rfl⟩
          case round =>
            obtain ⟨k, q, rfl, hk, hg, rfl⟩ := hrel
            by_cases hlt : k < n
            · have r1 : wx.cell? ⟨w.heap.size + 1, k, none⟩ = some (.int .i64 (z k)) := HX.out.row.cell hlt
              have r2 : wx.cell? ⟨b, off + k, none⟩ = some (.int .i64 (z k)) := HX.out.arg k hlt
              have hki : (k : Int) < (n : Int) := by omega
              go_wp2_with fail
              go_quiet (fail)
              go_wp2
              go_roundg (n - (k + 1))
              case measure => omega
              case rel => exact ⟨k + 1, _, by go_num, by omega, by omega, rfl⟩
            · obtain rfl : n = k := by omega
              go_wp2
              go_ret
              exact ⟨rfl, below_drewN HX.out.bel _⟩
end Go.Proofs.Ybulkdqcm

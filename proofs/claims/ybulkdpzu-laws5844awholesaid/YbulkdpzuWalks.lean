import Derived.Test.YbulkdpzuFacts
import Derived.Deep.LoopGhost
import Derived.Deep.DeepCutAuto
import Derived.Deep.QuietTactic
import Derived.BigQuiet
import Derived.WalkSmall
namespace Go.Proofs.Ybulkdpzu
open Go.RowKit

set_option maxHeartbeats 2000000 in
set_option maxRecDepth 100000 in
theorem walk_pos (a0 a1 : Bool) (b off n cap : Nat) (z : Nat → Int) (w : World) (hn : 0 < n) (hle : n ≤ 1048576) (hb : b < w.heap.size)
    (hz : ∀ i, i < n → 0 ≤ z i ∧ z i ≤ 255) (hc : ∀ i, i < n → w.cell? ⟨b, off + i, none⟩ = some (.int .u8 (z i))) :
    Calls Yba.prog 3 #[.bool a0, .bool a1, .slice (some ⟨b, off, none⟩) n cap] w fun e w' => e = .returned (.bool true) ∧ Below w.heap.size w w' := by
  have HC : Hid (∀ i, i < n → w.cell? ⟨b, off + i, none⟩ = some (.int .u8 (z i))) := hc
  have HZ : Hid (∀ i, i < n → 0 ≤ z i ∧ z i ≤ 255) := hz
  clear hc hz
  have hmk := run_make_row' (P := Yba.prog) 24 23 (.pointer none) 8 Yba.underlying24 pinfo23 rfl .i64 .i64 n (by omega) (by omega)
  go_enter Yba.func3, Yba.ntmps3
  go_upto_region 3 with fail
  go_cut [7] (fun p wx => p = .pointer (some ⟨w.heap.size + 3, 0, none⟩) ∧ Hid (Pool w wx))
  case first =>
    go_wp2_with (first
      | ((with_reducible refine wpList_build_run rfl 102 _ rfl [(0, .string ⟨#[97]⟩)] ?_ _ (build_name _ _) ?_); exact rfl)
      | ((with_reducible refine wpList_build_run rfl 102 _ rfl [(0, .string ⟨#[98]⟩)] ?_ _ (build_name _ _) ?_); exact rfl)
      | ((with_reducible refine wpList_build_run rfl 102 _ rfl [(0, .string ⟨#[99]⟩)] ?_ _ (build_name _ _) ?_); exact rfl)
      | ((with_reducible refine wpList_box_run rfl 102 _ rfl (.agg (Z ⟨#[97]⟩ none none 0 0)) ?_ _ _ (box_Z _ _ _ _ _ _) ?_); exact rfl)
      | ((with_reducible refine wpList_box_run rfl 102 _ rfl (.agg (Z ⟨#[98]⟩ none none 0 0)) ?_ _ _ (box_Z _ _ _ _ _ _) ?_); exact rfl)
      | ((with_reducible refine wpList_box_run rfl 102 _ rfl (.agg (Z ⟨#[99]⟩ none none 0 0)) ?_ _ _ (box_Z _ _ _ _ _ _) ?_); exact rfl))
    go_meet
    case rel => exact ⟨rfl, pool_laid w _ _ _⟩
  case rest =>
    obtain ⟨rfl, HP⟩ := hcut
    have hsz : wc.heap.size = w.heap.size + 4 := HP.out.size
    go_upto_region 5 with fail
    go_cut [32] (fun t wx => t = .bool true ∧ wx = wc)
    case first =>
      cases a1
      all_goals
        go_wp2_with fail
        go_meet
        case rel => exact ⟨rfl, rfl⟩
    case rest =>
      obtain ⟨rfl, rfl⟩ := hcut
      go_wp2_with fail
      go_loopg [9] n (fun g i wr => ∃ k : Nat, i = .int .i64 k ∧ k ≤ n ∧ n - k ≤ g ∧ Hid (Fill w wc wr n z k))
      case atStart => exact ⟨0, rfl, Nat.zero_le _, by omega, fill_start n z HP.out⟩
      case round =>
        obtain ⟨k, rfl, hk, hg, HF⟩ := hrel
        have hszr : wr.heap.size = w.heap.size + 5 := HF.out.size
        have q0 : wr.cell? ⟨w.heap.size + 3, 0, none⟩ = some (.pointer (some ⟨w.heap.size, 0, none⟩)) := (HF.out.bel.cell (by simp)).trans HP.out.c0
        have q1 : wr.cell? ⟨w.heap.size + 3, 1, none⟩ = some (.pointer (some ⟨w.heap.size + 1, 0, none⟩)) := (HF.out.bel.cell (by simp)).trans HP.out.c1
        have q2 : wr.cell? ⟨w.heap.size + 3, 2, none⟩ = some (.pointer (some ⟨w.heap.size + 2, 0, none⟩)) := (HF.out.bel.cell (by simp)).trans HP.out.c2
        by_cases hlt : k < n
        · have hca : wr.cell? ⟨b, off + k, none⟩ = some (.int .u8 (z k)) := (HF.out.bel.cell (by simp; omega)).trans ((HP.out.bel.cell (by simpa using hb)).trans (HC.out k hlt))
          have hcl : ∃ v, wr.cell? ⟨w.heap.size + 4, k, none⟩ = some v := ⟨_, HF.out.row.cell hlt⟩
          obtain ⟨vold, hcl⟩ := hcl
          have hcf : wr.frozen? ⟨w.heap.size + 4, k, none⟩ = false := HF.out.row.frozen k
          have hz := HZ.out k hlt
          go_wp2_with (go_at_call 4; refine (pick_any (w.heap.size + 3) w.heap.size (z k) _ hz.1 hz.2 q0 q1 q2).mono ?_; rintro e w' ⟨rfl, rfl⟩)
          go_roundg (n - (k + 1))
          case measure => omega
          case rel => exact ⟨k + 1, by go_num, by omega, by omega, fill_step hlt HF.out⟩
        · obtain rfl : n = k := by omega
          have hn' : (0 : Int) < (n : Int) := by omega
          have n23 := neq23
          have n107 := neq107
          have e24 := fun (w : World) (a : Option Addr) (l c : Nat) => Lib.run_eql_slice_nil (P := Yba.prog) w 24 23 a l c 0 0 Yba.underlying24
          cases a0
          · go_upto_region 15 with fail
            go_cut [12] (fun s wx => s = .pointer (some ⟨w.heap.size + 6, 0, none⟩) ∧ wx.cell? ⟨w.heap.size + 6, 2, none⟩ = some (.pointer none) ∧ wx.cell? ⟨w.heap.size + 6, 3, none⟩ = some (.slice (some ⟨w.heap.size + 5, 0, none⟩) 2 2) ∧ Hid (Laid w wx b off n z))
            case first =>
              go_wp2_with (first
                | ((with_reducible refine wpList_build_run rfl 102 _ rfl [(0, .string ⟨#[115]⟩), (2, .pointer none), (3, .slice (some ⟨w.heap.size + 5, 0, none⟩) 2 2)] ?_ _ (build_all _ _ _ _ _ _) ?_); exact rfl)
                | ((with_reducible refine wpList_box_run rfl 102 _ rfl (.agg (Z ⟨#[115]⟩ none (some ⟨w.heap.size + 5, 0, none⟩) 2 2)) ?_ _ _ (box_Z _ _ _ _ _ _) ?_); exact rfl))
              go_meet
              case rel =>
                have L := laid_false hb HC.out HP.out HF.out ⟨#[115]⟩ none rfl
                exact ⟨by simp, L.2.1, L.2.2, L.1⟩
            case rest =>
              obtain ⟨rfl, s2, s3, HL⟩ := hcut
              clear q0 q1 q2 HF HP hsz hszr hmk
              have c0 := HL.out.c0
              have c1 := HL.out.c1
              have c2 := HL.out.c2
              have o0 := HL.out.o0
              have o1 := HL.out.o1
              go_wp2
              go_quiet (fail)
              go_wp2
              go_loopg [15] n (fun g i wr => ∃ k q : Nat, i = .int .i64 k ∧ k ≤ n ∧ n - k ≤ g ∧ wr = wc.drewN q)
              case atStart => exact ⟨0, _, rfl, Nat.zero_le _, by omega, rfl⟩
              case round =>
                obtain ⟨k, q, rfl, hk, hg, rfl⟩ := hrel
                by_cases hlt : k < n
                · have hla := HL.out.line k hlt
                  have haa := HL.out.arg k hlt
                  have hz := HZ.out k hlt
                  have hki : (k : Int) < (n : Int) := by omega
                  go_wp2_with fail
                  go_quiet ((go_at_call 4; exact (pick_any (w.heap.size + 3) w.heap.size (z k) _ hz.1 hz.2 (by exact c0) (by exact c1) (by exact c2)).mono (fun _ _ ⟨he, hm⟩ => ⟨he, _, hm⟩)))
                  go_wp2
                  go_roundg (n - (k + 1))
                  case measure => omega
                  case rel => exact ⟨k + 1, _, by go_num, by omega, by omega, rfl⟩
                · obtain rfl : n = k := by omega
                  go_wp2
                  go_ret
                  exact ⟨rfl, below_drewN HL.out.bel _⟩
          · go_upto_region 15 with (first
              | ((with_reducible refine wpList_build_run rfl 102 _ rfl [(0, .string ⟨#[112]⟩), (3, .slice (some ⟨w.heap.size + 4, 0, none⟩) n n)] ?_ _ (build_line _ _ _ _ _) ?_); exact rfl)
              | ((with_reducible refine wpList_box_run rfl 102 _ rfl (.agg (Z ⟨#[112]⟩ none (some ⟨w.heap.size + 4, 0, none⟩) n n)) ?_ _ _ (box_Z _ _ _ _ _ _) ?_); exact rfl))
            go_cut [12] (fun s wx => s = .pointer (some ⟨w.heap.size + 7, 0, none⟩) ∧ wx.cell? ⟨w.heap.size + 7, 2, none⟩ = some (.pointer (some ⟨w.heap.size + 6, 0, none⟩)) ∧ wx.cell? ⟨w.heap.size + 7, 3, none⟩ = some (.slice (some ⟨w.heap.size + 5, 0, none⟩) 2 2) ∧
              wx.cell? ⟨w.heap.size + 6, 2, none⟩ = some (.pointer none) ∧ wx.cell? ⟨w.heap.size + 6, 3, none⟩ = some (.slice (some ⟨w.heap.size + 4, 0, none⟩) n n) ∧ Hid (Laid w wx b off n z))
            case first =>
              go_wp2_with (first
                | ((with_reducible refine wpList_build_run rfl 102 _ rfl [(0, .string ⟨#[115]⟩), (2, .pointer (some ⟨w.heap.size + 6, 0, none⟩)), (3, .slice (some ⟨w.heap.size + 5, 0, none⟩) 2 2)] ?_ _ (build_all _ _ _ _ _ _) ?_); exact rfl)
                | ((with_reducible refine wpList_box_run rfl 102 _ rfl (.agg (Z ⟨#[115]⟩ (some ⟨w.heap.size + 6, 0, none⟩) (some ⟨w.heap.size + 5, 0, none⟩) 2 2)) ?_ _ _ (box_Z _ _ _ _ _ _) ?_); exact rfl))
              go_meet
              case rel =>
                have L := laid_true hb HC.out HP.out HF.out ⟨#[115]⟩ ⟨#[112]⟩ (some ⟨w.heap.size + 4, 0, none⟩) rfl
                exact ⟨by simp, L.2.1, L.2.2.1, L.2.2.2.1, L.2.2.2.2, L.1⟩
            case rest =>
              obtain ⟨rfl, s2, s3, p2, p3, HL⟩ := hcut
              clear q0 q1 q2 HF HP hsz hszr hmk
              have c0 := HL.out.c0
              have c1 := HL.out.c1
              have c2 := HL.out.c2
              have o0 := HL.out.o0
              have o1 := HL.out.o1
              go_wp2
              go_loopg [14] n (fun g i wr => ∃ k q : Nat, i = .int .i64 k ∧ k ≤ n ∧ n - k ≤ g ∧ wr = wc.drewN q)
              case atStart => exact ⟨0, 0, rfl, Nat.zero_le _, by omega, rfl⟩
              case round =>
                obtain ⟨k, q, rfl, hk, hg, rfl⟩ := hrel
                by_cases hlt : k < n
                · have hla := HL.out.line k hlt
                  have haa := HL.out.arg k hlt
                  have hz := HZ.out k hlt
                  have hki : (k : Int) < (n : Int) := by omega
                  go_wp2_with fail
                  go_quiet ((go_at_call 4; exact (pick_any (w.heap.size + 3) w.heap.size (z k) _ hz.1 hz.2 (by exact c0) (by exact c1) (by exact c2)).mono (fun _ _ ⟨he, hm⟩ => ⟨he, _, hm⟩)))
                  go_wp2
                  go_roundg (n - (k + 1))
                  case measure => omega
                  case rel => exact ⟨k + 1, _, by go_num, by omega, by omega, rfl⟩
                · obtain rfl : n = k := by omega
                  clear hlt hg hk
                  go_wp2
                  go_quiet (fail)
                  go_wp2
                  go_quiet (fail)
                  go_wp2
                  go_quiet (fail)
                  go_wp2
                  go_loopg [15] n (fun g i wr => ∃ k q : Nat, i = .int .i64 k ∧ k ≤ n ∧ n - k ≤ g ∧ wr = wc.drewN q)
                  case atStart => exact ⟨0, _, rfl, Nat.zero_le _, by omega, rfl⟩
                  case round =>
                    obtain ⟨k, q, rfl, hk, hg, rfl⟩ := hrel
                    by_cases hlt : k < n
                    · have hla := HL.out.line k hlt
                      have haa := HL.out.arg k hlt
                      have hz := HZ.out k hlt
                      have hki : (k : Int) < (n : Int) := by omega
                      go_wp2_with fail
                      go_quiet ((go_at_call 4; exact (pick_any (w.heap.size + 3) w.heap.size (z k) _ hz.1 hz.2 (by exact c0) (by exact c1) (by exact c2)).mono (fun _ _ ⟨he, hm⟩ => ⟨he, _, hm⟩)))
                      go_wp2
                      go_roundg (n - (k + 1))
                      case measure => omega
                      case rel => exact ⟨k + 1, _, by go_num, by omega, by omega, rfl⟩
                    · obtain rfl : n = k := by omega
                      go_wp2
                      go_ret
                      exact ⟨rfl, below_drewN HL.out.bel _⟩
end Go.Proofs.Ybulkdpzu

import Derived.Test.YbulkdqbyMerge
namespace Go.Proofs.Ybulkdqby
open Go.RowKit

set_option maxHeartbeats 4000000 in
set_option maxRecDepth 100000 in
theorem law_main (a0 a1 : Option Addr) (n0 n1 c0 c1 : Nat) (z0 z1 : Nat → Int) (k : Int) (w : World) (h0 : n0 ≤ 1048576) (h1 : n1 ≤ 1048576) (k0 : Came w a0 n0 z0) (k1 : Came w a1 n1 z1) (hk1 : 1 ≤ k) (hk2 : k ≤ 18446744073709551615) :
    Calls Yba.prog 4 #[.slice a0 n0 c0, .slice a1 n1 c1, .int .u64 k] w fun e w' => e = .returned (.bool true) ∧ Below w.heap.size w w' := by
  have K0 : Hid (Came w a0 n0 z0) := k0
  have K1 : Hid (Came w a1 n1 z1) := k1
  clear k0 k1
  have e0 : (k == 0) = false := by rw [beq_eq_false_iff_ne]; omega
  have hd0 : decide ((1048576 : Int) < (n0 : Int)) = false := by simp; omega
  have hd1 : decide ((1048576 : Int) < (n1 : Int)) = false := by simp; omega
  obtain ⟨i0, hi0, hy0, hy1, hy2⟩ := info_parts info45
  go_enter Yba.func4, Yba.ntmps4
  go_wp2_with fail
  refine (build_any a0 a1 n0 n1 c0 c1 z0 z1 _ h0 h1 K0.out K1.out).mono ?_
  rintro e w1 ⟨L, g, cap, rfl, hbeh, hlen⟩
  have HB : Hid (Behind w w1 L g cap) := hbeh
  have HLn : Hid (L.length ≤ 1048576) := hlen
  clear hbeh K0 K1
  obtain ⟨n, hn⟩ : ∃ n, L.length = n := ⟨_, rfl⟩
  rw [hn] at hlen ⊢
  have HN : Hid (L.length = n) := hn
  clear hn
  have hs1 := HB.out.bel.size
  go_wp2_with (first
    | (at_make; refine wpList_make_full _ rfl _ _ 42 rfl w.heap.size 45 i0 (.agg #[.int .u64 0, .int .u64 0]) 2 Yba.underlying42 hi0 hy0 hy1 .i64 .i64 _ _ n rfl rfl rfl rfl (by rw [hy2]; omega) (by unfold maxLen; omega) hs1 ?_; intro w2 hz2 hg2)
    | ((with_reducible refine wpList_copy_rows_y rfl _ _ 42 rfl 45 i0 2 Yba.underlying42 hi0 hy1 (b := w.heap.size) (b' := w.heap.size) (h := w1.heap.size) (g := g) (n := n) (cap := cap) ?_ ?_ hz2 ?_ (flat_one L) ?_); exact rfl; exact rfl; (have hq := HB.out.own; rw [HN.out] at hq; exact hq.kept hg2 (.inr (by simp [Value.ownBlock]))); intro w3 hc3 hg3; have HT : Hid (Two w w3 L g cap w1.heap.size n) := two_made HB.out HLn.out HN.out hg2 hc3 hg3; clear hc3 hg3 hz2 hg2))
  clear HB HLn hs1
  generalize w1.heap.size = h at HT ⊢
  go_loopg [9, 10, 11] n (fun gg a b i wr => ∃ j p : Nat, i = .int .i64 j ∧ j ≤ n ∧ n - j ≤ gg ∧ a = .bool (wasTo L k j) ∧ b = .int .i64 p ∧ p ≤ n ∧ Hid (PosTo L k j p) ∧ w3 = wr)
  case atStart => exact ⟨0, n, rfl, Nat.zero_le _, by omega, rfl, rfl, Nat.le_refl _, by rw [← HN.out]; exact posTo_start L k, rfl⟩
  case round =>
    obtain ⟨j, p, rfl, hj, hg, rfl, rfl, hp, HP, rfl⟩ := hrel
    by_cases hlt : j < n
    · have o0 := HT.out.o0 j hlt
      have o1 := HT.out.o1 j hlt
      have hji : (j : Int) < (n : Int) := by omega
      by_cases t1 : fi L j ≤ k
      · have x1 : decide (fi L j ≤ k) = true := by simpa using t1
        have x3 : decide (k < fi L j) = false := by simp; omega
        by_cases t2 : k ≤ la L j
        · have x2 : decide (k ≤ la L j) = true := by simpa using t2
          by_cases t3 : p = n
          · have x4 : ((p : Int) == (n : Int)) = true := by rw [beq_iff_eq]; omega
            have T3 : Hid (p = n) := t3
            clear t3
            go_wp2_with fail
            go_roundg (n - (j + 1))
            case measure => omega
            case rel => exact ⟨j + 1, p, by go_num, by omega, by omega, congrArg Value.bool (wasTo_hit x1 x2).symm, rfl, hp, posTo_keep HP.out (.inl (of_decide_eq_true x1)), rfl⟩
          · have x4 : ((p : Int) == (n : Int)) = false := by rw [beq_eq_false_iff_ne]; omega
            go_wp2_with fail
            go_roundg (n - (j + 1))
            case measure => omega
            case rel => exact ⟨j + 1, p, by go_num, by omega, by omega, congrArg Value.bool (wasTo_hit x1 x2).symm, rfl, hp, posTo_keep HP.out (.inl (of_decide_eq_true x1)), rfl⟩
        · have x2 : decide (k ≤ la L j) = false := by simpa using t2
          by_cases t3 : p = n
          · have x4 : ((p : Int) == (n : Int)) = true := by rw [beq_iff_eq]; omega
            have T3 : Hid (p = n) := t3
            clear t3
            go_wp2_with fail
            go_roundg (n - (j + 1))
            case measure => omega
            case rel => exact ⟨j + 1, p, by go_num, by omega, by omega, congrArg Value.bool (wasTo_miss (.inr x2)).symm, rfl, hp, posTo_keep HP.out (.inl (of_decide_eq_true x1)), rfl⟩
          · have x4 : ((p : Int) == (n : Int)) = false := by rw [beq_eq_false_iff_ne]; omega
            go_wp2_with fail
            go_roundg (n - (j + 1))
            case measure => omega
            case rel => exact ⟨j + 1, p, by go_num, by omega, by omega, congrArg Value.bool (wasTo_miss (.inr x2)).symm, rfl, hp, posTo_keep HP.out (.inl (of_decide_eq_true x1)), rfl⟩
      · have x1 : decide (fi L j ≤ k) = false := by simpa using t1
        have x3 : decide (k < fi L j) = true := by simp; omega
        by_cases t3 : p = n
        · have x4 : ((p : Int) == (n : Int)) = true := by rw [beq_iff_eq]; omega
          have T3 : Hid (p = n) := t3
          clear t3
          go_wp2_with fail
          go_roundg (n - (j + 1))
          case measure => omega
          case rel => exact ⟨j + 1, j, by go_num, by omega, by omega, congrArg Value.bool (wasTo_miss (.inl x1)).symm, rfl, hj, by have hq := HP.out; rw [T3.out, ← HN.out] at hq; exact posTo_hit hq (by rw [HN.out]; exact hlt) (by omega), rfl⟩
        · have x4 : ((p : Int) == (n : Int)) = false := by rw [beq_eq_false_iff_ne]; omega
          go_wp2_with fail
          go_roundg (n - (j + 1))
          case measure => omega
          case rel => exact ⟨j + 1, p, by go_num, by omega, by omega, congrArg Value.bool (wasTo_miss (.inl x1)).symm, rfl, hp, posTo_keep HP.out (.inr (by rw [HN.out]; exact t3)), rfl⟩
    · obtain rfl : n = j := by omega
      clear hlt hg hj
      obtain ⟨A, B, hAB, hA, hB⟩ := split_at L k HT.out.wf
      have HS : Hid (L = A ++ B ∧ (∀ p ∈ A, p.2 < k - 1) ∧ ∀ p ∈ B, k - 1 ≤ p.2) := ⟨hAB, hA, hB⟩
      clear hAB hA hB
      have HW : Hid (wasTo L k n = inB B k) := by
        obtain ⟨rfl, hA, hB⟩ := HS.out
        have := was_eq HT.out.wf hA hB
        rw [HN.out] at this
        exact this
      go_upto_if 76 with fail
      go_cut [9, 12] (fun a v wx => a = .bool (wasTo L k n) ∧ ∃ m gw cw, v = .slice (some ⟨gw, 0, none⟩) m cw ∧ Hid (m = (out A B k).length) ∧ Hid (Want w wx L (out A B k) g cap n gw cw))
      case first =>
        cases hw : wasTo L k n
        · obtain ⟨AD, hAD, hnews⟩ := news_drop (i := p) HT.out.cop hp
          have HA : Hid (∀ j u, (flat (L.drop p))[j]? = some u → w3.cell? (AD.add j) = some u) := hnews
          clear hnews
          have HWF : Hid (wasTo L k n = false) := hw
          have hpi : (p : Int) ≤ (n : Int) := by omega
          have hpn : p + 1 + (n - p) = n + 1 := by omega
          have HTk : Hid ((flat (L.take p)).length = p * 2) := by
            show _ = _
            rw [flat_length, List.length_take, HN.out, Nat.min_eq_left hp]
          have HDr : Hid ((flat (L.drop p)).length = (n - p) * 2) := by
            show _ = _
            rw [flat_length, List.length_drop, HN.out]
          have HC : Hid (∀ j u, (flat (L.take p))[j]? = some u → w3.cell? ((⟨h, 0, none⟩ : Addr).add j) = some u) := (own_take HT.out.cop HN.out hp).cells (g := h) rfl
          go_wp2_with (first
            | (at_make; refine wpList_make_own _ rfl _ _ 42 rfl w3.heap.size 45 i0 (.agg #[.int .u64 0, .int .u64 0]) 2 Yba.underlying42 hi0 hy0 hy1 .i64 .i64 _ (n + 1) rfl rfl (by omega) (by rw [hy2]; omega) (by unfold maxLen; omega) (Nat.le_refl _) ?_; intro w4 hm hg; have I0 : Hid (Ins w3 w4 n 0 []) := ins_start hm hg; clear hm hg)
            | (at_builtin; have _t := I0; refine wpList_append_fits _ rfl _ _ 42 rfl w3.heap.size 45 i0 2 Yba.underlying42 hi0 hy1 w3.heap.size 0 (n + 1) (flat []) rfl I0.out.own ⟨h, 0, none⟩ p n (flat (L.take p)) rfl HTk.out (fun j u hu => cell_below I0.out.bel (Nat.le_refl _) (HC.out j u hu)) (flat_one _) (by omega) ?_; intro w5 hm hg; have I1 : Hid (Ins w3 w5 n p (L.take p)) := ins_len (ins_next I0.out hm hg) (Nat.zero_add _) (List.nil_append _); clear hm hg I0; rw [Nat.zero_add])
            | (at_builtin; have _t := I1; refine wpList_append_fits _ rfl _ _ 42 rfl w3.heap.size 45 i0 2 Yba.underlying42 hi0 hy1 w3.heap.size p (n + 1) (flat (L.take p)) rfl (I1.out.own.alloc _) ⟨w5.heap.size, 0, none⟩ 1 1 (flat [(k, k)]) rfl rfl (World.news_of_block (heap_alloc_new w5 _)) (flat_one _) (by omega) ?_; intro w6 hm hg; have I2 : Hid (Ins w3 w6 n (p + 1) (L.take p ++ [(k, k)])) := ins_next (ins_alloc I1.out _) hm hg; clear hm hg I1)
            | (at_builtin; have _t := I2; refine wpList_append_fits _ rfl _ _ 42 rfl w3.heap.size 45 i0 2 Yba.underlying42 hi0 hy1 w3.heap.size (p + 1) (n + 1) (flat (L.take p ++ [(k, k)])) rfl I2.out.own AD (n - p) (n - p) (flat (L.drop p)) rfl HDr.out (fun j u hu => cell_below I2.out.bel (Nat.le_refl _) (HA.out j u hu)) (flat_one _) (by omega) ?_; intro w7 hm hg; have I3 : Hid (Ins w3 w7 n (n + 1) (insL L k p)) := ins_len (ins_next I2.out hm hg) hpn (by simp [insL]); clear hm hg I2; rw [hpn]))
          obtain ⟨I, HI⟩ : ∃ I, Hid (I = insL L k p) := ⟨_, rfl⟩
          have HIl : Hid (I.length = n + 1) := by
            show _ = _
            rw [HI.out]; exact insL_length HN.out hp
          have HIn : Hid (∀ j, j + 1 < n + 1 → la I j < fi I (j + 1)) := fun j hj => by
            rw [HI.out]; exact insL_next HN.out HT.out.wf HP.out HWF.out j (by rw [insL_length HN.out hp]; exact hj)
          have HIb : Hid (∀ j, j < n + 1 → 1 ≤ fi I j ∧ fi I j ≤ la I j ∧ la I j ≤ 18446744073709551615) := fun j hj => by
            rw [HI.out]; exact insL_bd HT.out.wf hk1 hk2 j (by rw [insL_length HN.out hp]; exact hj)
          have I4 : Hid (Ins w3 w7 n (n + 1) I) := by rw [HI.out]; exact I3.out
          have hw7 : w3.heap.size < w7.heap.size := (I4.out.own.lt w3.heap.size rfl).2
          clear I3 hAD HA HTk HDr HC hpi hpn
          go_loopg [12, 14] (n + 1) (fun gg v i wr => ∃ j : Nat, i = .int .i64 j ∧ j ≤ n + 1 ∧ n + 1 - j ≤ gg ∧ ((j = 0 ∧ v = .slice none 0 0 ∧ Hid (Below (w3.heap.size + 1) w7 wr)) ∨ ∃ t m gw cw, j = t + 1 ∧ m ≤ t ∧ v = .slice (some ⟨gw, 0, none⟩) (m + 1) cw ∧ Hid (Mrg w7 wr w3.heap.size (foldTo I (t + 1)) m gw cw (la I t))))
          case atStart => exact ⟨0, rfl, Nat.zero_le _, by omega, .inl ⟨rfl, rfl, Below.refl _ _⟩⟩
          case round =>
            obtain ⟨j, rfl, hj, hg, hcase⟩ := hrel
            rcases hcase with ⟨rfl, rfl, HB⟩ | ⟨t, m, gw, cw, rfl, hmj, rfl, HMr⟩
            · have hsr := HB.out.size
              have s0 : wr.cell? ⟨w3.heap.size, 0, none⟩ = some (.int .u64 (fi I 0)) := by rw [HB.out.cell (by simp)]; exact ins_cell0 I4.out HIl.out 0 (by omega)
              have s1 : wr.cell? ⟨w3.heap.size, 1, none⟩ = some (.int .u64 (la I 0)) := by rw [HB.out.cell (by simp)]; exact ins_cell1 I4.out HIl.out 0 (by omega)
              go_wp2_with fail
              go_quiet (fail)
              go_wp2_with (at_builtin; refine wpList_append_lies _ rfl _ _ 42 rfl (w3.heap.size + 1) 45 i0 (.agg #[.int .u64 0, .int .u64 0]) 2 16 Yba.underlying42 hi0 hy0 hy1 hy2 rfl (by omega) (.slice none 0 0) 0 [] rfl (World.ownsRow_nil _ _ _ _) ⟨wr.heap.size + 1, 0, none⟩ 1 1 (flat [(fi I 0, la I 0)]) rfl rfl (by exact World.news_of_block (heap_two wr _ _)) (flat_one _) (by omega) (by unfold maxLen; omega) (by omega) (by simp; omega) _ rfl ?_; intro g' cap' w9 hm hg' hat hl9; have HM2 : Hid (Mrg w7 w9 w3.heap.size (foldTo I (0 + 1)) 0 g' cap' (la I 0)) := mrg_first (by repeat (first | exact HB.out | refine below_drewN ?_ _ | refine Below.drew ?_ | refine Below.alloc ?_ (by first | omega | (simp; omega)) _)) (by simp; omega) hm hg' rfl (by rw [HIl.out]; omega); clear hm hg' hat hl9)
              go_roundg (n + 1 - 1)
              case measure => omega
              case rel => exact ⟨1, rfl, by omega, by omega, .inr ⟨0, 0, g', cap', rfl, Nat.le_refl _, rfl, HM2⟩⟩
            · by_cases hlt : t + 1 < n + 1
              · have hsr := HMr.out.bel.size
                have hgl := (HMr.out.own.lt gw rfl).2
                have hgb := (HMr.out.own.lt gw rfl).1
                have s0 : wr.cell? ⟨w3.heap.size, (t + 1) * 2, none⟩ = some (.int .u64 (fi I (t + 1))) := by rw [HMr.out.bel.cell (by simp)]; exact ins_cell0 I4.out HIl.out (t + 1) hlt
                have s1 : wr.cell? ⟨w3.heap.size, (t + 1) * 2 + 1, none⟩ = some (.int .u64 (la I (t + 1))) := by rw [HMr.out.bel.cell (by simp)]; exact ins_cell1 I4.out HIl.out (t + 1) hlt
                have hnx := HIn.out t hlt
                have hb1 := HIb.out t (by omega)
                have hb2 := HIb.out (t + 1) hlt
                obtain ⟨hb11, hb12, hb13⟩ := hb1
                obtain ⟨hb21, hb22, hb23⟩ := hb2
                have HIt : Hid (t + 1 < I.length) := by
                  show _ < _
                  rw [HIl.out]; exact hlt
                have c1 : wr.cell? ⟨gw, m * 2 + 1, none⟩ = some (.int .u64 (la I t)) := by
                  rw [HMr.out.own.cellAt (m * 2 + 1) (by omega), flat_get1 _ m (by rw [HMr.out.len]; omega), HMr.out.last]
                have f1 : wr.frozen? ⟨gw, m * 2 + 1, none⟩ = false := HMr.out.own.frozenAt _
                have hji : (t : Int) + 1 < (n : Int) + 1 := by omega
                by_cases t1 : la I t + 1 = fi I (t + 1)
                · have e1 : (la I t + 1 == fi I (t + 1)) = true := by rw [beq_iff_eq]; exact t1
                  have T1 : Hid (la I t + 1 = fi I (t + 1)) := t1
                  clear t1
                  go_wp2_with fail
                  go_quiet (fail)
                  go_wp2_with fail
                  go_roundg (n + 1 - (t + 1 + 1))
                  case measure => omega
                  case rel => exact ⟨t + 1 + 1, by go_num, by omega, by omega, .inr ⟨t + 1, m, gw, cw, rfl, by omega, rfl, by exact mrg_merge HMr.out HIt.out T1.out (by repeat (first | exact HMr.out.bel | refine below_drewN ?_ _ | refine Below.drew ?_ | refine Below.alloc ?_ (by first | omega | (simp; omega)) _)) (by exact HMr.out.own.alloc _)⟩⟩
                · have e1 : (la I t + 1 == fi I (t + 1)) = false := by rw [beq_eq_false_iff_ne]; exact t1
                  have T1 : Hid (¬ la I t + 1 = fi I (t + 1)) := t1
                  clear t1
                  go_wp2_with fail
                  go_quiet (fail)
                  go_wp2_with (at_builtin; refine wpList_append_lies _ rfl _ _ 42 rfl (w3.heap.size + 1) 45 i0 (.agg #[.int .u64 0, .int .u64 0]) 2 16 Yba.underlying42 hi0 hy0 hy1 hy2 rfl (by omega) (.slice (some ⟨gw, 0, none⟩) (m + 1) cw) (m + 1) (flat (foldTo I (t + 1))) rfl (by exact (HMr.out.own.alloc _).alloc _) ⟨wr.heap.size + 1, 0, none⟩ 1 1 (flat [(fi I (t + 1), la I (t + 1))]) rfl rfl (by exact World.news_of_block (heap_two wr _ _)) (flat_one _) (by omega) (by unfold maxLen; omega) (by omega) (by simp; omega) _ rfl ?_; intro g' cap' w9 hm hg' hat hl9; have HM2 : Hid (Mrg w7 w9 w3.heap.size (foldTo I (t + 1 + 1)) (m + 1) g' cap' (la I (t + 1))) := mrg_push HMr.out HIt.out T1.out (by repeat (first | exact HMr.out.bel | refine below_drewN ?_ _ | refine Below.drew ?_ | refine Below.alloc ?_ (by first | omega | (simp; omega)) _)) (by simp; omega) hm hg'; clear hm hg' hat hl9)
                  go_roundg (n + 1 - (t + 1 + 1))
                  case measure => omega
                  case rel => exact ⟨t + 1 + 1, by go_num, by omega, by omega, .inr ⟨t + 1, m + 1, g', cap', rfl, by omega, rfl, HM2⟩⟩
              · obtain rfl : n = t := by omega
                go_wp2_with fail
                go_meet
                case rel =>
                  have ho : foldTo I (n + 1) = out A B k := by
                    obtain ⟨e, hA, hB⟩ := HS.out
                    rw [foldTo_all I (n + 1) HIl.out, HI.out]
                    have hp := HP.out
                    have hwf := HT.out.wf
                    have hnot : inB B k = false := by rw [← HW.out]; exact HWF.out
                    rw [← HN.out] at hp
                    clear HI HIl HIn HIb I4 HMr HT HW HWF
                    rw [e] at hp hwf ⊢
                    exact want_eq hwf hA hB hnot _ hp
                  refine ⟨by rw [HWF.out], m + 1, gw, cw, rfl, ?_, ?_⟩
                  · rw [← ho]; exact HMr.out.len.symm
                  · rw [← ho]
                    exact want_made HT.out I4.out HMr.out (by omega)
        · go_wp2_with fail
          go_meet
          case rel =>
            have hin : inB B k = true := by rw [← HW.out]; exact hw
            have ho : out A B k = L := by rw [out_in hin, ← HS.out.1]
            refine ⟨by rw [hw], n, h, n, rfl, ?_, ?_⟩
            · rw [ho]; exact HN.out.symm
            · rw [ho]
              exact ⟨HN.out, hlen, HT.out.own, by rw [HN.out]; exact HT.out.cop, HT.out.ne, HT.out.bel, by rw [HN.out]; omega⟩
      case rest =>
        obtain ⟨rfl, m, gw, cw, rfl, HM, HX⟩ := hcut
        have HWf : Hid (WF L) := HT.out.wf
        clear HT HP hp
        generalize hb : wasTo L k n = was at HW
        clear hb
        have hmm : m ≤ 1048577 := by rw [HM.out]; exact HX.out.small
        go_wp2_with fail
        refine (add_all _ w.heap.size wc.heap.size g n cap k A B (by rw [← HS.out.1]; exact pre_made HX.out) hlen hk1 hk2 (by rw [← HS.out.1]; exact HWf.out) HS.out.2.1 HS.out.2.2).mono ?_
        rintro e wq ⟨rfl, g', cap', hadd⟩
        have HL : Hid (Last w wq (out A B k) wc.heap.size m g' cap' gw cw) := last_made HX.out HM.out hadd
        clear hadd HX
        rw [← HW.out]
        have cn := HL.out.cn
        generalize out A B k = O at HL HM
        clear HM HW HS HN HWf
        generalize wc.heap.size = bn at HL cn ⊢
        go_wp2_with fail
        go_loopg [18] m (fun gg i wr => ∃ j q : Nat, i = .int .i64 j ∧ j ≤ m ∧ m - j ≤ gg ∧ wr = wq.drewN q)
        case atStart => exact ⟨0, 0, rfl, Nat.zero_le _, by omega, rfl⟩
        case round =>
          obtain ⟨j, q, rfl, hj, hg, rfl⟩ := hrel
          by_cases hlt : j < m
          · obtain ⟨r0, r1, v0, v1⟩ := HL.out.cells j hlt
            have hji : (j : Int) < (m : Int) := by omega
            go_wp2_with fail
            go_quiet (fail)
            go_wp2
            go_roundg (m - (j + 1))
            case measure => omega
            case rel => exact ⟨j + 1, _, by go_num, by omega, by omega, rfl⟩
          · obtain rfl : m = j := by omega
            go_wp2
            go_ret
            exact ⟨rfl, below_drewN HL.out.bel _⟩
end Go.Proofs.Ybulkdqby

import Derived.Test.YbulkdqbyMid
import Derived.Test.YbulkdqbyLists
import Derived.Test.YbulkdqbySearch
import Derived.Deep.DeepCutAuto
import Derived.Deep.RegionHeld3
import Derived.Test.YbulkdqbyAdd2
import Derived.Test.YbulkdqbyAppend
namespace Go.Proofs.Ybulkdqby
open Go.RowKit

set_option maxHeartbeats 2000000 in
set_option maxRecDepth 100000 in
/-- k closes the gap between two stretches. -/
theorem add_bridge (w : World) (base bn g n cap c : Nat) (k : Int) (L : List (Int × Int)) (hpre : Pre w base bn g n cap L) (hrest : Rest n c k L) (hlt : c < n) (hlt2 : c + 1 < n) (xl : la L c = k - 1) (xf : fi L (c + 1) - 1 = k) :
    Calls Yba.prog 9 #[.pointer (some ⟨bn, 0, none⟩), .int .u64 k] w fun e w' => e = .returned (.bool true) ∧ ∃ g' cap', Added w w' base bn g (L.take c ++ (fi L c, la L (c + 1)) :: L.drop (c + 2)) g' cap' := by
  have HP : Hid (Pre w base bn g n cap L) := hpre
  have HR : Hid (Rest n c k L) := hrest
  have cn := hpre.cn
  have hbl : bn < w.heap.size := World.block_lt_of_cell? _ _ hpre.cn
  have hn := hrest.hn
  have hk1 := hrest.k1
  have hk2 := hrest.k2
  have hcn := hrest.le
  have hbd := hrest.bd c hlt
  obtain ⟨hf1, hf2, hf3⟩ := hbd
  have XL : Hid (la L c = k - 1) := xl
  have XF : Hid (fi L (c + 1) - 1 = k) := xf
  clear xl xf
  clear hpre hrest
  go_enter Yba.func9, Yba.ntmps9
  go_upto_region 2 with fail
  have HM : Hid (Mid w ((w.alloc (.cells #[.int .u64 k] 23)).alloc (.cells #[.slice (some ⟨g, 0, none⟩) n cap] 42)) base bn g n cap k L) := mid_start HP.out k
  generalize (w.alloc (.cells #[.int .u64 k] 23)).alloc (.cells #[.slice (some ⟨g, 0, none⟩) n cap] 42) = wd at HM ⊢
  have ck := HM.out.ck
  have cs := HM.out.cs
  clear cn
  go_cut [24] (fun t wx => t = .bool false ∧ ∃ q, wx = wd.drewN q)
  case first =>
    rcases Nat.eq_zero_or_pos n with h0 | h0
    · omega
    · obtain ⟨m, rfl⟩ : ∃ m, n = m + 1 := ⟨n - 1, by omega⟩
      have c1 : wd.cell? ⟨g, m * 2 + 1, none⟩ = some (.int .u64 (la L m)) := HM.out.cell1 m (by omega)
      have hbm := HR.out.bd m (by omega)
      obtain ⟨hm1, hm2, hm3⟩ := hbm
      have e1 : (la L m == k - 1) = false := by rw [beq_eq_false_iff_ne]; exact HR.out.nl m rfl
      go_quiet (fail)
      go_wp2_with fail
      go_meet
      case rel => exact ⟨rfl, _, rfl⟩
  case rest =>
    obtain ⟨rfl, q, rfl⟩ := hcut
    have hcall := search_any (w.heap.size + 1) w.heap.size g n cap c k (la L) (wd.drewN q) hn hk1 hk2 cs ck (fun i hi => HM.out.cell1 i hi) hcn HR.out.lo HR.out.hi
    go_wp2_with (go_at_call 12; refine hcall.mono ?_; rintro e w' ⟨rfl, q2, rfl⟩)
    clear hcall
    have c0 : wd.cell? ⟨g, c * 2, none⟩ = some (.int .u64 (fi L c)) := HM.out.cell0 c hlt
    have c1 : wd.cell? ⟨g, c * 2 + 1, none⟩ = some (.int .u64 (la L c)) := HM.out.cell1 c hlt
    have hci : (c : Int) < (n : Int) := by omega
    have e2 : ((c : Int) == (n : Int)) = false := by rw [beq_eq_false_iff_ne]; omega
    have e3 : decide (k < fi L c - 1) = false := by have := XL.out; simp; omega
    go_quiet (fail)
    go_wp2
    have e4 : decide (fi L c ≤ k) = true := by have := XL.out; simp; omega
    have e5 : decide (k ≤ la L c) = false := by have := XL.out; simp; omega
    go_quiet (fail)
    go_wp2
    have e6 : (la L c == k - 1) = true := by rw [beq_iff_eq]; exact XL.out
    go_quiet (fail)
    have f1 : wd.frozen? ⟨g, c * 2 + 1, none⟩ = false := HM.out.own.frozenAt _
    go_upto_region 12 with fail
    go_cut [] (fun wx => Hid (Mid w wx base bn g n cap k (L.set c (fi L c, k))))
    case first =>
      go_wp2_with fail
      go_meet
      case rel => exact (HM.out.drewN _).set1 c hlt k
    case rest =>
      have hbd2 := HR.out.bd (c + 1) hlt2
      obtain ⟨hg1, hg2, hg3⟩ := hbd2
      clear HM c0 c1 ck cs f1
      obtain ⟨we, HM⟩ : ∃ we : World, Hid (Mid w we base bn g n cap k (L.set c (fi L c, k))) ∧ we = wc := ⟨wc, hcut, rfl⟩
      clear hcut
      obtain ⟨HM, rfl⟩ := HM
      have ck := HM.out.ck
      have cs := HM.out.cs
      have d0 : we.cell? ⟨g, (c + 1) * 2, none⟩ = some (.int .u64 (fi L (c + 1))) := by rw [HM.out.cell0 (c + 1) hlt2, fi_set_ne _ _ _ _ (by omega)]
      have d1 : we.cell? ⟨g, (c + 1) * 2 + 1, none⟩ = some (.int .u64 (la L (c + 1))) := by rw [HM.out.cell1 (c + 1) hlt2, la_set_ne _ _ _ _ (by omega)]
      have hci2 : (c : Int) + 1 < (n : Int) := by omega
      go_wp2_with fail
      have e7 : (fi L (c + 1) - 1 == k) = true := by rw [beq_iff_eq]; exact XF.out
      go_quiet (fail)
      go_upto_region 14 with fail
      have d2 : we.cell? ⟨g, c * 2 + 1, none⟩ = some (.int .u64 (la (L.set c (fi L c, k)) c)) := HM.out.cell1 c hlt
      have f2 : we.frozen? ⟨g, c * 2 + 1, none⟩ = false := HM.out.own.frozenAt _
      have hw1 : IntKind.i64.wrap ((c : Int) + 1) = (c : Int) + 1 := by rw [IntKind.wrap_i64]; omega
      have ht1 : ((c : Int) + 1).toNat = c + 1 := by omega
      have hz01 : (0 : Int) ≤ (c : Int) + 1 := by omega
      have lg := HM.out.lg
      go_cut [] (fun wx => Hid (Mid w wx base bn g n cap k (L.set c (fi L c, la L (c + 1)))))
      case first =>
        go_region_held3 (fun w' => w'.cell? ⟨w.heap.size + 1, 0, none⟩ = some (.slice (some ⟨g, 0, none⟩) n cap) ∧ w'.cell? ⟨g, (c + 1) * 2 + 1, none⟩ = some (.int .u64 (la L (c + 1))))
          (first | go_keep | exact ⟨(cell_far_block _ _ _ _ _ (by omega)).trans cs, (cell_far_off _ _ _ _ (by omega)).trans d1⟩) (fail)
        go_wp2_with fail
        go_meet
        case rel =>
          have hmm := (HM.out.drewN (nq + 1)).set1 c hlt (la L (c + 1))
          rw [List.set_set, fi_set_eq _ _ _ (by rw [← HP.out.len] at hlt; exact hlt)] at hmm
          exact hmm
      case rest =>
        clear HM d0 d1 d2 f2 ck cs
        obtain ⟨wf, HM⟩ : ∃ wf : World, Hid (Mid w wf base bn g n cap k (L.set c (fi L c, la L (c + 1)))) ∧ wf = wc := ⟨wc, hcut, rfl⟩
        clear hcut
        obtain ⟨HM, rfl⟩ := HM
        have cs := HM.out.cs
        have cn := HM.out.cn
        have fn := HM.out.fn
        have lb := HM.out.lb
        have hbn := HM.out.ne
        have hbase := HM.out.hb
        have hsz := HM.out.size
        obtain ⟨i0, hi0, hy0, hy1, hy2⟩ := info_parts info45y
        have hnc := own_cap HM.out.own
        have hci3 : (c : Int) + 2 ≤ (n : Int) := by omega
        have hci4 : (c : Int) + 1 ≤ (cap : Int) := by omega
        obtain ⟨AD, hAD, hnews⟩ := news_drop (i := c + 2) HM.out.own (by omega)
        have HN : Hid (∀ j u, (flat ((L.set c (fi L c, la L (c + 1))).drop (c + 2)))[j]? = some u → wf.cell? (AD.add j) = some u) := hnews
        clear hnews
        have HT : Hid (wf.ownsRow base 45 2 (.slice (some ⟨g, 0, none⟩) (c + 1) cap) (c + 1) (flat ((L.set c (fi L c, la L (c + 1))).take (c + 1)))) := own_take HM.out.own HM.out.len (by omega)
        have HLn : Hid ((flat ((L.set c (fi L c, la L (c + 1))).drop (c + 2))).length = (n - (c + 2)) * 2) := by
          have := HM.out.len
          show _ = _
          rw [flat_length, List.length_drop, this]
        have hw2 : IntKind.i64.wrap ((c : Int) + 2) = (c : Int) + 2 := by rw [IntKind.wrap_i64]; omega
        have ht2 : ((c : Int) + 2).toNat = c + 2 := by omega
        have hz02 : (0 : Int) ≤ (c : Int) + 2 := by omega
        go_wp2_with fail
        go_region_held3 (fun w' => w'.cell? ⟨w.heap.size + 1, 0, none⟩ = some (.slice (some ⟨g, 0, none⟩) n cap))
          (first | go_keep | exact cs1 | exact (cell_far_block _ _ _ _ _ (by omega)).trans cs1)
          ((refine step_append_any_y _ (by rfl) _ _ _ (by rfl) base 45 i0 _ 2 16 Yba.underlying42 hi0 hy0 hy1 hy2 rfl (by omega) (.slice (some ⟨g, 0, none⟩) (c + 1) cap) (c + 1) (flat ((L.set c (fi L c, la L (c + 1))).take (c + 1))) (by rfl) (by exact HT.out) AD (n - (c + 2)) (cap - (c + 2)) (flat ((L.set c (fi L c, la L (c + 1))).drop (c + 2))) (by rfl) HLn.out (by exact HN.out) (flat_one _) (by omega) (by unfold maxLen; omega) (by omega) (by show base ≤ wf.heap.size; omega) ?_; intro g' cap' w1 hown hgrow hat hlt'; have HO : Hid _ := hown; have HF : Hid (Far w.heap.size g wf w1) := (Far.refl _ _ wf).drew.grown hgrow (by show _ ≤ wf.heap.size; omega) (.inl rfl); have cs1 : w1.cell? ⟨w.heap.size + 1, 0, none⟩ = some (.slice (some ⟨g, 0, none⟩) n cap) := (hgrow.cell_far ⟨w.heap.size + 1, 0, none⟩ (by show w.heap.size + 1 < wf.heap.size; omega) (by show ¬ (some (w.heap.size + 1) = some g); simp only [Option.some.injEq]; omega)).trans cs; have cn1 : w1.cell? ⟨bn, 0, none⟩ = some (.slice (some ⟨g, 0, none⟩) n cap) := (World.cell?_of_block (HF.out.keep bn lb hbn)).trans cn; have fn1 : w1.frozen? ⟨bn, 0, none⟩ = false := (World.frozen?_of_block (HF.out.keep bn lb hbn)).trans fn; clear hown hgrow))
        go_wp2
        go_ret
        refine ⟨rfl, g', cap', added_store HM.out HF.out HO.out ?_ ?_ ?_⟩
        · rcases hat with hat | hat
          · left; simpa [Value.ownBlock] using hat.symm
          · right; rw [hat]; show _ ≤ wf.heap.size; omega
        · have := HP.out.len
          simp; omega
        · rw [← flat_append]
          congr 1
          exact bridge_list L c _ (by rw [HP.out.len]; exact hlt)
end Go.Proofs.Ybulkdqby

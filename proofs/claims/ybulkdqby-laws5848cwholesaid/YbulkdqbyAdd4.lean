import Derived.Test.YbulkdqbyMid
import Derived.Test.YbulkdqbyLists
import Derived.Test.YbulkdqbySearch
import Derived.Deep.DeepCutAuto
import Derived.Deep.RegionHeld3
import Derived.Test.YbulkdqbyAdd2
import Derived.Test.YbulkdqbyAppend
namespace Go.Proofs.Ybulkdqby
open Go.RowKit

set_option maxHeartbeats 2000000 in
set_option maxRecDepth 100000 in
/-- k touches no stretch: a stretch of its own. -/
theorem add_new (w : World) (base bn g n cap c : Nat) (k : Int) (L : List (Int × Int)) (hpre : Pre w base bn g n cap L) (hrest : Rest n c k L) (hins : c = n ∨ (c < n ∧ k < fi L c - 1)) :
    Calls Yba.prog 9 #[.pointer (some ⟨bn, 0, none⟩), .int .u64 k] w fun e w' => e = .returned (.bool true) ∧ ∃ g' cap', Added w w' base bn g (L.take c ++ (k, k) :: L.drop c) g' cap' := by
  have HP : Hid (Pre w base bn g n cap L) := hpre
  have HR : Hid (Rest n c k L) := hrest
  have cn := hpre.cn
  have hbl : bn < w.heap.size := World.block_lt_of_cell? _ _ hpre.cn
  have hn := hrest.hn
  have hk1 := hrest.k1
  have hk2 := hrest.k2
  have hcn := hrest.le
  clear hpre hrest
  go_enter Yba.func9, Yba.ntmps9
  go_upto_region 2 with fail
  have HM : Hid (Mid w ((w.alloc (.cells #[.int .u64 k] 23)).alloc (.cells #[.slice (some ⟨g, 0, none⟩) n cap] 42)) base bn g n cap k L) := mid_start HP.out k
  generalize (w.alloc (.cells #[.int .u64 k] 23)).alloc (.cells #[.slice (some ⟨g, 0, none⟩) n cap] 42) = wd at HM ⊢
  have ck := HM.out.ck
  have cs := HM.out.cs
  clear cn
  go_cut [24] (fun t wx => t = .bool false ∧ ∃ q, wx = wd.drewN q)
  case first =>
    rcases Nat.eq_zero_or_pos n with h0 | h0
    · subst h0
      go_quiet (fail)
      go_wp2_with fail
      go_meet
      case rel => exact ⟨rfl, _, rfl⟩
    · obtain ⟨m, rfl⟩ : ∃ m, n = m + 1 := ⟨n - 1, by omega⟩
      have c1 : wd.cell? ⟨g, m * 2 + 1, none⟩ = some (.int .u64 (la L m)) := HM.out.cell1 m (by omega)
      have hbm := HR.out.bd m (by omega)
      obtain ⟨hm1, hm2, hm3⟩ := hbm
      have e1 : (la L m == k - 1) = false := by rw [beq_eq_false_iff_ne]; exact HR.out.nl m rfl
      go_quiet (fail)
      go_wp2_with fail
      go_meet
      case rel => exact ⟨rfl, _, rfl⟩
  case rest =>
    obtain ⟨rfl, q, rfl⟩ := hcut
    have hcall := search_any (w.heap.size + 1) w.heap.size g n cap c k (la L) (wd.drewN q) hn hk1 hk2 cs ck (fun i hi => HM.out.cell1 i hi) hcn HR.out.lo HR.out.hi
    go_wp2_with (go_at_call 12; refine hcall.mono ?_; rintro e w' ⟨rfl, q2, rfl⟩)
    clear hcall
    go_upto_region 7 with fail
    go_cut [41] (fun t wx => t = .bool true ∧ ∃ q, wx = wd.drewN q)
    case first =>
      rcases hins with rfl | ⟨hlt, hx⟩
      · go_quiet (fail)
        go_wp2_with fail
        go_meet
        case rel => exact ⟨rfl, _, World.drewN_drewN _ _ _⟩
      · have hbd := HR.out.bd c hlt
        obtain ⟨hf1, hf2, hf3⟩ := hbd
        have c0 : wd.cell? ⟨g, c * 2, none⟩ = some (.int .u64 (fi L c)) := HM.out.cell0 c hlt
        have hci : (c : Int) < (n : Int) := by omega
        have e2 : ((c : Int) == (n : Int)) = false := by rw [beq_eq_false_iff_ne]; omega
        have e3 : decide (k < fi L c - 1) = true := by simp; omega
        go_quiet (fail)
        go_wp2_with fail
        go_meet
        case rel => exact ⟨rfl, _, World.drewN_drewN _ _ _⟩
    case rest =>
      obtain ⟨rfl, q3, rfl⟩ := hcut
      clear hins
      have cn := HM.out.cn
      have fn := HM.out.fn
      have lb := HM.out.lb
      have lg := HM.out.lg
      have hbn := HM.out.ne
      have hbase := HM.out.hb
      have hsz := HM.out.size
      have hl0 : w.heap.size < wd.heap.size := by omega
      have hl1 : w.heap.size + 1 < wd.heap.size := by omega
      obtain ⟨i0, hi0, hy0, hy1, hy2⟩ := info_parts info45y
      have hnc := own_cap HM.out.own
      have hci3 : (c : Int) ≤ (n : Int) := by omega
      have hci4 : (c : Int) ≤ (cap : Int) := by omega
      have hz02 : (0 : Int) ≤ (c : Int) := by omega
      obtain ⟨AD, hAD, hnews⟩ := news_drop (i := c) HM.out.own (by omega)
      have HI : Hid ((wd.alloc (.cells #[.int .u64 k, .int .u64 k] 45)).ownsRow base 45 2 (.slice (some ⟨wd.heap.size, 0, none⟩) 1 1) 1 (flat [(k, k)])) := World.ownsRow_lit wd #[.int .u64 k, .int .u64 k] 1 (by omega) (by unfold maxLen; omega) rfl
      have HN : Hid (∀ j u, (flat (L.drop c))[j]? = some u → (wd.alloc (.cells #[.int .u64 k, .int .u64 k] 45)).cell? (AD.add j) = some u) := fun j u hu => by
        have := hnews j u hu
        rw [World.cell?_alloc_lt _ _ _ (World.block_lt_of_cell? _ _ this)]; exact this
      clear hnews
      have HT : Hid ((wd.alloc (.cells #[.int .u64 k, .int .u64 k] 45)).ownsRow base 45 2 (.slice (some ⟨g, 0, none⟩) c cap) c (flat (L.take c))) := (own_take HM.out.own HM.out.len (by omega)).alloc _
      have HLn : Hid ((flat (L.drop c)).length = (n - c) * 2) := by
        have := HM.out.len
        show _ = _
        rw [flat_length, List.length_drop, this]
      have HLm : Hid ((flat ((k, k) :: L.drop c)).length = (1 + (n - c)) * 2) := by
        have := HM.out.len
        show _ = _
        rw [flat_length, List.length_cons, List.length_drop, this]
        omega
      have tok : True := trivial
      go_wp2_with fail
      go_region_held3 (fun w' => w'.cell? ⟨w.heap.size + 1, 0, none⟩ = some (.slice (some ⟨g, 0, none⟩) n cap) ∧ w'.cell? ⟨w.heap.size, 0, none⟩ = some (.int .u64 k))
        (first | exact ⟨(cell_far_block _ _ _ _ _ (by omega)).trans cs2, (cell_far_block _ _ _ _ _ (by omega)).trans ck2⟩ | exact ⟨cs2, ck2⟩ | exact ⟨cs1, ck1⟩ | go_keep)
        (first
          | (have _t := tok; refine step_append_any_y _ (by rfl) _ _ _ (by rfl) base 45 i0 _ 2 16 Yba.underlying42 hi0 hy0 hy1 hy2 rfl (by omega) (.slice (some ⟨wd.heap.size, 0, none⟩) 1 1) 1 (flat [(k, k)]) (by rfl) (by exact HI.out) AD (n - c) (cap - c) (flat (L.drop c)) (by rfl) HLn.out (by exact HN.out) (flat_one _) (by omega) (by unfold maxLen; omega) (by omega) (by show base ≤ (wd.alloc _).heap.size; simp; omega) ?_; intro g1 cap1 w1 hown hgrow hat hlt'; have HO1 : Hid (w1.ownsRow base 45 2 (.slice (some ⟨g1, 0, none⟩) (1 + (n - c)) cap1) (1 + (n - c)) (flat [(k, k)] ++ flat (L.drop c))) := hown; have HF1 : Hid (Far w.heap.size g wd w1) := new_far hsz hgrow; have HT1 : Hid (w1.ownsRow base 45 2 (.slice (some ⟨g, 0, none⟩) c cap) c (flat (L.take c))) := new_kept hsz lg HT.out hgrow; have cs1 : w1.cell? ⟨w.heap.size + 1, 0, none⟩ = some (.slice (some ⟨g, 0, none⟩) n cap) := (new_cell hl1 hgrow).trans cs; have ck1 : w1.cell? ⟨w.heap.size, 0, none⟩ = some (.int .u64 k) := (new_cell hl0 hgrow).trans ck; clear hown hgrow tok)
          | (have _t := HT1; refine step_append_any_y _ (by rfl) _ _ _ (by rfl) base 45 i0 _ 2 16 Yba.underlying42 hi0 hy0 hy1 hy2 rfl (by omega) (.slice (some ⟨g, 0, none⟩) c cap) c (flat (L.take c)) (by rfl) (by exact HT1.out) ⟨g1, 0, none⟩ (1 + (n - c)) cap1 (flat ((k, k) :: L.drop c)) (by rfl) HLm.out (by exact HO1.out.cells (g := g1) rfl) (flat_one _) (by omega) (by unfold maxLen; omega) (by omega) (by have := HF1.out.size; omega) ?_; intro g2 cap2 w2 hown hgrow hat2 hlt2; have HO2 : Hid (w2.ownsRow base 45 2 (.slice (some ⟨g2, 0, none⟩) (c + (1 + (n - c))) cap2) (c + (1 + (n - c))) (flat (L.take c) ++ flat ((k, k) :: L.drop c))) := hown; have HF2 : Hid (Far w.heap.size g wd w2) := HF1.out.grown hgrow (by have := HF1.out.size; omega) (.inl rfl); have cs2 : w2.cell? ⟨w.heap.size + 1, 0, none⟩ = some (.slice (some ⟨g, 0, none⟩) n cap) := (hgrow.cell_far ⟨w.heap.size + 1, 0, none⟩ (by have := HF1.out.size; show w.heap.size + 1 < _; omega) (by show ¬ (some (w.heap.size + 1) = some g); simp only [Option.some.injEq]; omega)).trans cs1; have ck2 : w2.cell? ⟨w.heap.size, 0, none⟩ = some (.int .u64 k) := (hgrow.cell_far ⟨w.heap.size, 0, none⟩ (by have := HF1.out.size; show w.heap.size < _; omega) (by show ¬ (some (w.heap.size) = some g); simp only [Option.some.injEq]; omega)).trans ck1; have cn2 : w2.cell? ⟨bn, 0, none⟩ = some (.slice (some ⟨g, 0, none⟩) n cap) := (World.cell?_of_block (HF2.out.keep bn lb hbn)).trans cn; have fn2 : w2.frozen? ⟨bn, 0, none⟩ = false := (World.frozen?_of_block (HF2.out.keep bn lb hbn)).trans fn; clear hown hgrow))
      go_wp2
      go_ret
      refine ⟨rfl, g2, cap2, added_store HM.out HF2.out HO2.out ?_ ?_ ?_⟩
      · rcases hat2 with h2 | h2
        · left; simpa [Value.ownBlock] using h2.symm
        · right; rw [h2]; have := HF1.out.size; omega
      · have := HP.out.len
        simp; omega
      · rw [← flat_append]
end Go.Proofs.Ybulkdqby

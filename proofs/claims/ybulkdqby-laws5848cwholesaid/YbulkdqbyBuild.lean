import Derived.Test.YbulkdqbyRows
import Derived.Test.YbulkdqbyPlain
import Derived.WalkKit
import Derived.WalkLawsBesides
import Derived.WalkSpells
import Derived.Deep.LoopGhost
import Derived.Deep.AppendLies
import Derived.Deep.DeepCutAuto
namespace Go.Proofs.Ybulkdqby
open Go.RowKit

theorem info45 : (Yba.prog.info? 45).map (fun i => (i.zero, i.size, i.bytes)) = some (some (.agg #[.int .u64 0, .int .u64 0]), 2, 16) := by kernel_rfl

/-- A slice of uint64 that came in, as the walk wants it. -/
def Came (w : World) (a : Option Addr) (n : Nat) (z : Nat → Int) : Prop :=
  0 < n → ∃ b o, a = some ⟨b, o, none⟩ ∧ b < w.heap.size ∧ ∀ i, i < n → w.cell? ⟨b, o + i, none⟩ = some (.int .u64 (z i)) ∧ 0 ≤ z i ∧ z i ≤ 18446744073709551615

/-- What the building loop keeps. -/
structure Built (w wr : World) (L : List (Int × Int)) (g cap : Nat) (pos : Int) : Prop where
  own : wr.ownsRow w.heap.size 45 2 (.slice (some ⟨g, 0, none⟩) L.length cap) L.length (flat L)
  wf : WF L
  lt : ∀ p ∈ L, p.2 + 2 ≤ pos
  bel : Below w.heap.size w wr

theorem built_start (w : World) : Built w (w.alloc (.cells #[] 45)) [] w.heap.size 0 1 :=
  ⟨World.ownsRow_made w #[] 0 (Nat.le_refl _) (by unfold maxLen; omega) rfl, wf_nil, by simp, (Below.refl _ _).alloc (Nat.le_refl _) _⟩

/-- What is known behind the append. -/
structure Behind (w wr : World) (L : List (Int × Int)) (g cap : Nat) : Prop where
  own : wr.ownsRow w.heap.size 45 2 (.slice (some ⟨g, 0, none⟩) (L.length) cap) L.length (flat L)
  wf : WF L
  bel : Below w.heap.size w wr

theorem built_next {w wr w1 : World} {L : List (Int × Int)} {g cap g' cap' : Nat} {pos a b : Int} {o : Obj} (h : Built w wr L g cap pos) (h1 : 1 ≤ pos) (ha : pos ≤ a) (hab : a ≤ b) (hb : b ≤ 18446744073709551615)
    (ho : w1.ownsRow w.heap.size 45 2 (.slice (some ⟨g', 0, none⟩) (L.length + 1) cap') (L.length + 1) (flat L ++ flat [(a, b)]))
    (hg : (wr.alloc o).grownBy w1 (Value.slice (some ⟨g, 0, none⟩) L.length cap).ownBlock) : Behind w w1 (L ++ [(a, b)]) g' cap' := by
  refine ⟨?_, wf_snoc h.wf h.lt h1 ha hab hb, ?_⟩
  · rw [flat_append, List.length_append]
    exact ho
  · have hs := h.bel.size
    refine ((h.bel.alloc hs o).grown hg (by simp; omega) fun k hk => ?_)
    exact (h.own.lt k hk).1

theorem behind_lt {w wr : World} {L : List (Int × Int)} {g cap : Nat} {pos a b : Int} (h : Behind w wr (L ++ [(a, b)]) g cap) (hlt : ∀ p ∈ L, p.2 + 2 ≤ pos) (ha : pos ≤ a) (hab : a ≤ b) : Built w wr (L ++ [(a, b)]) g cap (b + 2) :=
  ⟨h.own, h.wf, fun p hp => by
    rcases List.mem_append.1 hp with hp | hp
    · have := hlt p hp; omega
    · simp at hp; subst hp; simp, h.bel⟩

theorem slice_len {g n m cap : Nat} (h : n = m) : Value.slice (some ⟨g, 0, none⟩) n cap = .slice (some ⟨g, 0, none⟩) m cap := by rw [h]

set_option maxHeartbeats 1000000 in
set_option maxRecDepth 100000 in
theorem build_any (a0 a1 : Option Addr) (n0 n1 c0 c1 : Nat) (z0 z1 : Nat → Int) (w : World) (h0 : n0 ≤ 1048576) (h1 : n1 ≤ 1048576) (k0 : Came w a0 n0 z0) (k1 : Came w a1 n1 z1) :
    Calls Yba.prog 8 #[.slice a0 n0 c0, .slice a1 n1 c1] w fun e w' => ∃ L g cap, e = .returned (.slice (some ⟨g, 0, none⟩) (List.length L) cap) ∧ Behind w w' L g cap ∧ List.length L ≤ 1048576 := by
  have K0 : Hid (Came w a0 n0 z0) := k0
  have K1 : Hid (Came w a1 n1 z1) := k1
  clear k0 k1
  obtain ⟨i0, hi, hy0, hy1, hy2⟩ := info_parts info45
  go_enter Yba.func8, Yba.ntmps8
  go_upto_if 16 with fail
  go_cut [5] (fun t wx => ∃ n : Nat, t = .int .i64 n ∧ n ≤ n0 ∧ n ≤ n1 ∧ wx = w)
  case first =>
    by_cases hlt : n1 < n0
    · have hlt' : (n1 : Int) < (n0 : Int) := by omega
      go_wp2_with fail
      go_meet
      case rel => exact ⟨n1, rfl, by omega, by omega, rfl⟩
    · have hlt' : ¬ (n1 : Int) < (n0 : Int) := by omega
      go_wp2_with fail
      go_meet
      case rel => exact ⟨n0, rfl, by omega, by omega, rfl⟩
  case rest =>
    obtain ⟨n, rfl, hn0, hn1, rfl⟩ := hcut
    go_wp2_with fail
    go_loopg [6, 7, 8] n (fun gg s p i wr => ∃ (k : Nat) (L : List (Int × Int)) (g cap : Nat) (pos : Int), i = .int .i64 k ∧ k ≤ n ∧ n - k ≤ gg ∧ L.length ≤ k ∧ s = .slice (some ⟨g, 0, none⟩) L.length cap ∧ p = .int .u64 pos ∧ 1 ≤ pos ∧ pos ≤ 18446744073709551615 ∧ Hid (Built wc wr L g cap pos))
    case atStart => exact ⟨0, [], _, _, 1, rfl, Nat.zero_le _, by omega, Nat.zero_le _, rfl, rfl, by omega, by omega, built_start _⟩
    case round =>
      obtain ⟨k, L, g, cap, pos, rfl, hk, hg, hL, rfl, rfl, hp1, hp2, HB⟩ := hrel
      by_cases hlk : k < n
      · obtain ⟨b0, o0, rfl, hb0, hc0⟩ := K0.out (by omega)
        obtain ⟨b1, o1, rfl, hb1, hc1⟩ := K1.out (by omega)
        obtain ⟨hc0, hz00, hz01⟩ := hc0 k (by omega)
        obtain ⟨hc1, hz10, hz11⟩ := hc1 k (by omega)
        have hd0 : wr.cell? ⟨b0, o0 + k, none⟩ = some (.int .u64 (z0 k)) := (HB.out.bel.cell (by exact hb0)).trans hc0
        have hd1 : wr.cell? ⟨b1, o1 + k, none⟩ = some (.int .u64 (z1 k)) := (HB.out.bel.cell (by exact hb1)).trans hc1
        have hk0 : (k : Int) < (n0 : Int) := by omega
        have hk1 : (k : Int) < (n1 : Int) := by omega
        clear hc0 hc1
        by_cases t1 : 18446744073709551615 - pos < z0 k
        · go_wp2_with fail
          go_ret
          exact ⟨L, g, cap, rfl, ⟨HB.out.own, HB.out.wf, HB.out.bel⟩, by omega⟩
        · by_cases t2 : 18446744073709551615 - (pos + z0 k) < z1 k
          · go_wp2_with fail
            go_ret
            exact ⟨L, g, cap, rfl, ⟨HB.out.own, HB.out.wf, HB.out.bel⟩, by omega⟩
          · have hsz := HB.out.bel.size
            by_cases t3 : 18446744073709551613 < pos + z0 k + z1 k
            · go_wp2_with (at_builtin; refine wpList_append_lies _ rfl _ _ 42 rfl wc.heap.size 45 i0 (.agg #[.int .u64 0, .int .u64 0]) 2 16 Yba.underlying42 hi hy0 hy1 hy2 rfl (by omega) _ L.length (flat L) rfl (HB.out.own.alloc _) ⟨wr.heap.size, 0, none⟩ 1 1 (flat [(pos + z0 k, pos + z0 k + z1 k)]) rfl rfl (World.news_of_block (heap_alloc_new wr _)) (flat_one _) (by omega) (by unfold maxLen; omega) (by omega) (by simp; omega) _ rfl ?_; intro g' cap' w1 hown hgrow hat hlt; have HN : Hid (Behind wc w1 (L ++ [(pos + z0 k, pos + z0 k + z1 k)]) g' cap') := built_next HB.out hp1 (by omega) (by omega) (by omega) hown hgrow; clear hown hgrow hat hlt)
              go_ret
              exact ⟨_, g', cap', congrArg _ (slice_len (by simp)), HN.out, by simp; omega⟩
            · go_wp2_with (at_builtin; refine wpList_append_lies _ rfl _ _ 42 rfl wc.heap.size 45 i0 (.agg #[.int .u64 0, .int .u64 0]) 2 16 Yba.underlying42 hi hy0 hy1 hy2 rfl (by omega) _ L.length (flat L) rfl (HB.out.own.alloc _) ⟨wr.heap.size, 0, none⟩ 1 1 (flat [(pos + z0 k, pos + z0 k + z1 k)]) rfl rfl (World.news_of_block (heap_alloc_new wr _)) (flat_one _) (by omega) (by unfold maxLen; omega) (by omega) (by simp; omega) _ rfl ?_; intro g' cap' w1 hown hgrow hat hlt; have HN : Hid (Behind wc w1 (L ++ [(pos + z0 k, pos + z0 k + z1 k)]) g' cap') := built_next HB.out hp1 (by omega) (by omega) (by omega) hown hgrow; clear hown hgrow hat hlt)
              go_roundg (n - (k + 1))
              case measure => omega
              case rel => exact ⟨k + 1, _, g', cap', _, by go_num, by omega, by omega, by simp; omega, slice_len (by simp), rfl, by omega, by omega, behind_lt HN.out HB.out.lt (by omega) (by omega)⟩
      · go_wp2_with fail
        go_ret
        exact ⟨L, g, cap, rfl, ⟨HB.out.own, HB.out.wf, HB.out.bel⟩, by omega⟩
end Go.Proofs.Ybulkdqby

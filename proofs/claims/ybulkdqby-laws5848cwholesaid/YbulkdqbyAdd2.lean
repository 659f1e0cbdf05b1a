import Derived.Test.YbulkdqbyMid
import Derived.Test.YbulkdqbyLists
import Derived.Test.YbulkdqbySearch
import Derived.Deep.DeepCutAuto
import Derived.Deep.RegionHeld3
namespace Go.Proofs.Ybulkdqby
open Go.RowKit

/-- What every way but the first is told: k is not right behind the last stretch; c is how many end below k - 1. -/
structure Rest (n c : Nat) (k : Int) (L : List (Int × Int)) : Prop where
  hn : n ≤ 1048576
  k1 : 1 ≤ k
  k2 : k ≤ 18446744073709551615
  nl : ∀ m, n = m + 1 → la L m ≠ k - 1
  le : c ≤ n
  lo : ∀ i, i < c → la L i < k - 1
  hi : ∀ i, c ≤ i → i < n → k - 1 ≤ la L i
  bd : ∀ i, i < n → 1 ≤ fi L i ∧ fi L i ≤ la L i ∧ la L i ≤ 18446744073709551615

set_option maxHeartbeats 2000000 in
set_option maxRecDepth 100000 in
/-- k is in the set already. -/
theorem add_in (w : World) (base bn g n cap c : Nat) (k : Int) (L : List (Int × Int)) (hpre : Pre w base bn g n cap L) (hrest : Rest n c k L) (hlt : c < n) (x1 : fi L c ≤ k) (x2 : k ≤ la L c) :
    Calls Yba.prog 9 #[.pointer (some ⟨bn, 0, none⟩), .int .u64 k] w fun e w' => e = .returned (.bool false) ∧ Added w w' base bn g L g cap := by
  have HP : Hid (Pre w base bn g n cap L) := hpre
  have HR : Hid (Rest n c k L) := hrest
  have cn := hpre.cn
  have hbl : bn < w.heap.size := World.block_lt_of_cell? _ _ hpre.cn
  have hn := hrest.hn
  have hk1 := hrest.k1
  have hk2 := hrest.k2
  have hcn := hrest.le
  have hbd := hrest.bd c hlt
  obtain ⟨hf1, hf2, hf3⟩ := hbd
  clear hpre hrest
  go_enter Yba.func9, Yba.ntmps9
  go_upto_region 2 with fail
  have HM : Hid (Mid w ((w.alloc (.cells #[.int .u64 k] 23)).alloc (.cells #[.slice (some ⟨g, 0, none⟩) n cap] 42)) base bn g n cap k L) := mid_start HP.out k
  generalize (w.alloc (.cells #[.int .u64 k] 23)).alloc (.cells #[.slice (some ⟨g, 0, none⟩) n cap] 42) = wd at HM ⊢
  have ck := HM.out.ck
  have cs := HM.out.cs
  clear cn
  go_cut [24] (fun t wx => t = .bool false ∧ ∃ q, wx = wd.drewN q)
  case first =>
    rcases Nat.eq_zero_or_pos n with h0 | h0
    · omega
    · obtain ⟨m, rfl⟩ : ∃ m, n = m + 1 := ⟨n - 1, by omega⟩
      have c1 : wd.cell? ⟨g, m * 2 + 1, none⟩ = some (.int .u64 (la L m)) := HM.out.cell1 m (by omega)
      have hbm := HR.out.bd m (by omega)
      obtain ⟨hm1, hm2, hm3⟩ := hbm
      have e1 : (la L m == k - 1) = false := by rw [beq_eq_false_iff_ne]; exact HR.out.nl m rfl
      go_quiet (fail)
      go_wp2_with fail
      go_meet
      case rel => exact ⟨rfl, _, rfl⟩
  case rest =>
    obtain ⟨rfl, q, rfl⟩ := hcut
    have hcall := search_any (w.heap.size + 1) w.heap.size g n cap c k (la L) (wd.drewN q) hn hk1 hk2 cs ck (fun i hi => HM.out.cell1 i hi) hcn HR.out.lo HR.out.hi
    go_wp2_with (go_at_call 12; refine hcall.mono ?_; rintro e w' ⟨rfl, q2, rfl⟩)
    clear hcall
    have c0 : wd.cell? ⟨g, c * 2, none⟩ = some (.int .u64 (fi L c)) := HM.out.cell0 c hlt
    have c1 : wd.cell? ⟨g, c * 2 + 1, none⟩ = some (.int .u64 (la L c)) := HM.out.cell1 c hlt
    have hci : (c : Int) < (n : Int) := by omega
    have e2 : ((c : Int) == (n : Int)) = false := by rw [beq_eq_false_iff_ne]; omega
    have e3 : decide (k < fi L c - 1) = false := by simp; omega
    go_quiet (fail)
    go_wp2
    have e4 : decide (fi L c ≤ k) = true := by simp; omega
    have e5 : decide (k ≤ la L c) = true := by simp; omega
    go_quiet (fail)
    go_wp2
    go_ret
    exact ⟨rfl, (((HM.out.drewN _).drewN _).drewN _).added rfl⟩

set_option maxHeartbeats 2000000 in
set_option maxRecDepth 100000 in
/-- k stands right below a stretch. -/
theorem add_below (w : World) (base bn g n cap c : Nat) (k : Int) (L : List (Int × Int)) (hpre : Pre w base bn g n cap L) (hrest : Rest n c k L) (hlt : c < n) (x1 : fi L c = k + 1) :
    Calls Yba.prog 9 #[.pointer (some ⟨bn, 0, none⟩), .int .u64 k] w fun e w' => e = .returned (.bool true) ∧ Added w w' base bn g (L.set c (k, la L c)) g cap := by
  have HP : Hid (Pre w base bn g n cap L) := hpre
  have HR : Hid (Rest n c k L) := hrest
  have cn := hpre.cn
  have hbl : bn < w.heap.size := World.block_lt_of_cell? _ _ hpre.cn
  have hn := hrest.hn
  have hk1 := hrest.k1
  have hk2 := hrest.k2
  have hcn := hrest.le
  have hbd := hrest.bd c hlt
  obtain ⟨hf1, hf2, hf3⟩ := hbd
  have X1 : Hid (fi L c = k + 1) := x1
  clear x1
  clear hpre hrest
  go_enter Yba.func9, Yba.ntmps9
  go_upto_region 2 with fail
  have HM : Hid (Mid w ((w.alloc (.cells #[.int .u64 k] 23)).alloc (.cells #[.slice (some ⟨g, 0, none⟩) n cap] 42)) base bn g n cap k L) := mid_start HP.out k
  generalize (w.alloc (.cells #[.int .u64 k] 23)).alloc (.cells #[.slice (some ⟨g, 0, none⟩) n cap] 42) = wd at HM ⊢
  have ck := HM.out.ck
  have cs := HM.out.cs
  clear cn
  go_cut [24] (fun t wx => t = .bool false ∧ ∃ q, wx = wd.drewN q)
  case first =>
    rcases Nat.eq_zero_or_pos n with h0 | h0
    · omega
    · obtain ⟨m, rfl⟩ : ∃ m, n = m + 1 := ⟨n - 1, by omega⟩
      have c1 : wd.cell? ⟨g, m * 2 + 1, none⟩ = some (.int .u64 (la L m)) := HM.out.cell1 m (by omega)
      have hbm := HR.out.bd m (by omega)
      obtain ⟨hm1, hm2, hm3⟩ := hbm
      have e1 : (la L m == k - 1) = false := by rw [beq_eq_false_iff_ne]; exact HR.out.nl m rfl
      go_quiet (fail)
      go_wp2_with fail
      go_meet
      case rel => exact ⟨rfl, _, rfl⟩
  case rest =>
    obtain ⟨rfl, q, rfl⟩ := hcut
    have hcall := search_any (w.heap.size + 1) w.heap.size g n cap c k (la L) (wd.drewN q) hn hk1 hk2 cs ck (fun i hi => HM.out.cell1 i hi) hcn HR.out.lo HR.out.hi
    go_wp2_with (go_at_call 12; refine hcall.mono ?_; rintro e w' ⟨rfl, q2, rfl⟩)
    clear hcall
    have c0 : wd.cell? ⟨g, c * 2, none⟩ = some (.int .u64 (fi L c)) := HM.out.cell0 c hlt
    have c1 : wd.cell? ⟨g, c * 2 + 1, none⟩ = some (.int .u64 (la L c)) := HM.out.cell1 c hlt
    have hci : (c : Int) < (n : Int) := by omega
    have e2 : ((c : Int) == (n : Int)) = false := by rw [beq_eq_false_iff_ne]; omega
    have e3 : decide (k < fi L c - 1) = false := by have := X1.out; simp; omega
    go_quiet (fail)
    go_wp2
    have e4 : decide (fi L c ≤ k) = false := by have := X1.out; simp; omega
    go_quiet (fail)
    go_wp2
    have e5 : (la L c == k - 1) = false := by rw [beq_eq_false_iff_ne]; have := X1.out; omega
    go_quiet (fail)
    have f0 : wd.frozen? ⟨g, c * 2, none⟩ = false := HM.out.own.frozenAt _
    go_wp2
    go_ret
    exact ⟨rfl, ((HM.out.drewN _).set0 c hlt k).added rfl⟩

set_option maxHeartbeats 2000000 in
set_option maxRecDepth 100000 in
/-- k stands right behind a stretch, and does not touch the next. -/
theorem add_behind (w : World) (base bn g n cap c : Nat) (k : Int) (L : List (Int × Int)) (hpre : Pre w base bn g n cap L) (hrest : Rest n c k L) (hlt : c < n) (hlt2 : c + 1 < n) (xl : la L c = k - 1) (xf : fi L (c + 1) - 1 ≠ k) :
    Calls Yba.prog 9 #[.pointer (some ⟨bn, 0, none⟩), .int .u64 k] w fun e w' => e = .returned (.bool true) ∧ Added w w' base bn g (L.set c (fi L c, k)) g cap := by
  have HP : Hid (Pre w base bn g n cap L) := hpre
  have HR : Hid (Rest n c k L) := hrest
  have cn := hpre.cn
  have hbl : bn < w.heap.size := World.block_lt_of_cell? _ _ hpre.cn
  have hn := hrest.hn
  have hk1 := hrest.k1
  have hk2 := hrest.k2
  have hcn := hrest.le
  have hbd := hrest.bd c hlt
  obtain ⟨hf1, hf2, hf3⟩ := hbd
  have XL : Hid (la L c = k - 1) := xl
  have XF : Hid (fi L (c + 1) - 1 ≠ k) := xf
  clear xl xf
  clear hpre hrest
  go_enter Yba.func9, Yba.ntmps9
  go_upto_region 2 with fail
  have HM : Hid (Mid w ((w.alloc (.cells #[.int .u64 k] 23)).alloc (.cells #[.slice (some ⟨g, 0, none⟩) n cap] 42)) base bn g n cap k L) := mid_start HP.out k
  generalize (w.alloc (.cells #[.int .u64 k] 23)).alloc (.cells #[.slice (some ⟨g, 0, none⟩) n cap] 42) = wd at HM ⊢
  have ck := HM.out.ck
  have cs := HM.out.cs
  clear cn
  go_cut [24] (fun t wx => t = .bool false ∧ ∃ q, wx = wd.drewN q)
  case first =>
    rcases Nat.eq_zero_or_pos n with h0 | h0
    · omega
    · obtain ⟨m, rfl⟩ : ∃ m, n = m + 1 := ⟨n - 1, by omega⟩
      have c1 : wd.cell? ⟨g, m * 2 + 1, none⟩ = some (.int .u64 (la L m)) := HM.out.cell1 m (by omega)
      have hbm := HR.out.bd m (by omega)
      obtain ⟨hm1, hm2, hm3⟩ := hbm
      have e1 : (la L m == k - 1) = false := by rw [beq_eq_false_iff_ne]; exact HR.out.nl m rfl
      go_quiet (fail)
      go_wp2_with fail
      go_meet
      case rel => exact ⟨rfl, _, rfl⟩
  case rest =>
    obtain ⟨rfl, q, rfl⟩ := hcut
    have hcall := search_any (w.heap.size + 1) w.heap.size g n cap c k (la L) (wd.drewN q) hn hk1 hk2 cs ck (fun i hi => HM.out.cell1 i hi) hcn HR.out.lo HR.out.hi
    go_wp2_with (go_at_call 12; refine hcall.mono ?_; rintro e w' ⟨rfl, q2, rfl⟩)
    clear hcall
    have c0 : wd.cell? ⟨g, c * 2, none⟩ = some (.int .u64 (fi L c)) := HM.out.cell0 c hlt
    have c1 : wd.cell? ⟨g, c * 2 + 1, none⟩ = some (.int .u64 (la L c)) := HM.out.cell1 c hlt
    have hci : (c : Int) < (n : Int) := by omega
    have e2 : ((c : Int) == (n : Int)) = false := by rw [beq_eq_false_iff_ne]; omega
    have e3 : decide (k < fi L c - 1) = false := by have := XL.out; simp; omega
    go_quiet (fail)
    go_wp2
    have e4 : decide (fi L c ≤ k) = true := by have := XL.out; simp; omega
    have e5 : decide (k ≤ la L c) = false := by have := XL.out; simp; omega
    go_quiet (fail)
    go_wp2
    have e6 : (la L c == k - 1) = true := by rw [beq_iff_eq]; exact XL.out
    go_quiet (fail)
    have f1 : wd.frozen? ⟨g, c * 2 + 1, none⟩ = false := HM.out.own.frozenAt _
    go_upto_region 12 with fail
    go_cut [] (fun wx => Hid (Mid w wx base bn g n cap k (L.set c (fi L c, k))))
    case first =>
      go_wp2_with fail
      go_meet
      case rel => exact (HM.out.drewN _).set1 c hlt k
    case rest =>
      have hbd2 := HR.out.bd (c + 1) hlt2
      obtain ⟨hg1, hg2, hg3⟩ := hbd2
      clear HM c0 c1 ck cs f1
      obtain ⟨we, HM⟩ : ∃ we : World, Hid (Mid w we base bn g n cap k (L.set c (fi L c, k))) ∧ we = wc := ⟨wc, hcut, rfl⟩
      clear hcut
      obtain ⟨HM, rfl⟩ := HM
      have ck := HM.out.ck
      have cs := HM.out.cs
      have d0 : we.cell? ⟨g, (c + 1) * 2, none⟩ = some (.int .u64 (fi L (c + 1))) := by rw [HM.out.cell0 (c + 1) hlt2, fi_set_ne _ _ _ _ (by omega)]
      have d1 : we.cell? ⟨g, (c + 1) * 2 + 1, none⟩ = some (.int .u64 (la L (c + 1))) := by rw [HM.out.cell1 (c + 1) hlt2, la_set_ne _ _ _ _ (by omega)]
      have hci2 : (c : Int) + 1 < (n : Int) := by omega
      go_wp2_with fail
      have e7 : (fi L (c + 1) - 1 == k) = false := by rw [beq_eq_false_iff_ne]; exact XF.out
      go_quiet (fail)
      go_wp2
      go_ret
      exact ⟨rfl, (HM.out.drewN _).added rfl⟩
end Go.Proofs.Ybulkdqby

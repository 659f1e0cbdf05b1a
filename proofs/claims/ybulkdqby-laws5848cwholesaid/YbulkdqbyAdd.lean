import Derived.Test.YbulkdqbyMid
import Derived.Test.YbulkdqbySearch
import Derived.Deep.DeepCutAuto
import Derived.Deep.RegionHeld3
namespace Go.Proofs.Ybulkdqby
open Go.RowKit

set_option maxHeartbeats 1000000 in
set_option maxRecDepth 100000 in
/-- 'add' where k stands right behind the last stretch. -/
theorem add_last (w : World) (base bn g m cap : Nat) (k : Int) (L : List (Int × Int)) (hpre : Pre w base bn g (m + 1) cap L) (hm : m + 1 ≤ 1048576) (hk1 : 1 ≤ k) (hk2 : k ≤ 18446744073709551615) (hl : la L m = k - 1) :
    Calls Yba.prog 9 #[.pointer (some ⟨bn, 0, none⟩), .int .u64 k] w fun e w' => e = .returned (.bool true) ∧ Added w w' base bn g (L.set m (fi L m, k)) g cap := by
  have HP : Hid (Pre w base bn g (m + 1) cap L) := hpre
  have cn := hpre.cn
  have hbl : bn < w.heap.size := World.block_lt_of_cell? _ _ hpre.cn
  have HL : Hid (la L m = k - 1) := hl
  clear hpre hl
  go_enter Yba.func9, Yba.ntmps9
  go_upto_region 2 with fail
  have HM : Hid (Mid w ((w.alloc (.cells #[.int .u64 k] 23)).alloc (.cells #[.slice (some ⟨g, 0, none⟩) (m + 1) cap] 42)) base bn g (m + 1) cap k L) := mid_start HP.out k
  generalize (w.alloc (.cells #[.int .u64 k] 23)).alloc (.cells #[.slice (some ⟨g, 0, none⟩) (m + 1) cap] 42) = wc at HM ⊢
  have ck := HM.out.ck
  have cs := HM.out.cs
  have c1 : wc.cell? ⟨g, m * 2 + 1, none⟩ = some (.int .u64 (k - 1)) := by rw [← HL.out]; exact HM.out.cell1 m (by omega)
  have f1 : wc.frozen? ⟨g, m * 2 + 1, none⟩ = false := HM.out.own.frozenAt _
  clear cn
  go_quiet (fail)
  go_wp2
  go_ret
  exact ⟨rfl, ((HM.out.drewN _).set1 m (by omega) k).added rfl⟩
end Go.Proofs.Ybulkdqby

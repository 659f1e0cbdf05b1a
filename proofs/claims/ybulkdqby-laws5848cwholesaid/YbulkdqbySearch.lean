import Derived.Test.YbulkdqbyRows
import Derived.Test.YbulkdqbyPlain
import Derived.WalkKit
import Derived.WalkLawsBesides
import Derived.WalkSpells
import Derived.Deep.LoopGhost
import Derived.Deep.QuietTactic
import Derived.BigQuiet
import Derived.WalkSmall
namespace Go.Proofs.Ybulkdqby
open Go.RowKit

set_option maxHeartbeats 400000 in
/-- The closure of 'add': 's[i].last >= k-1', s and k in their boxes. -/
theorem closure_any (bs bk g n cap i : Nat) (k x : Int) (W : World) (hi : i < n) (hk1 : 1 ≤ k) (hk2 : k ≤ 18446744073709551615)
    (cs : W.cell? ⟨bs, 0, none⟩ = some (.slice (some ⟨g, 0, none⟩) n cap)) (ck : W.cell? ⟨bk, 0, none⟩ = some (.int .u64 k)) (cx : W.cell? ⟨g, i * 2 + 1, none⟩ = some (.int .u64 x)) :
    Calls Yba.prog 13 #[.int .i64 i, .pointer (some ⟨bs, 0, none⟩), .pointer (some ⟨bk, 0, none⟩)] W fun e w' => e = .returned (.bool (decide (k - 1 ≤ x))) ∧ ∃ q, w' = W.drewN q := by
  have hi' : (i : Int) < (n : Int) := by omega
  go_enter Yba.func13, Yba.ntmps13
  go_wp2
  go_quiet (fail)
  go_wp2
  go_ret
  exact ⟨rfl, _, rfl⟩

set_option maxHeartbeats 1000000 in
/-- sort.Search over that closure: how many of the stretches end below k-1. -/
theorem search_any (bs bk g n cap c : Nat) (k : Int) (x : Nat → Int) (W : World) (hn : n ≤ 1048576) (hk1 : 1 ≤ k) (hk2 : k ≤ 18446744073709551615)
    (cs : W.cell? ⟨bs, 0, none⟩ = some (.slice (some ⟨g, 0, none⟩) n cap)) (ck : W.cell? ⟨bk, 0, none⟩ = some (.int .u64 k)) (cx : ∀ i, i < n → W.cell? ⟨g, i * 2 + 1, none⟩ = some (.int .u64 (x i)))
    (hc : c ≤ n) (hlo : ∀ i, i < c → x i < k - 1) (hhi : ∀ i, c ≤ i → i < n → k - 1 ≤ x i) :
    Calls Yba.prog 12 #[.int .i64 n, .func (.func 13) #[] #[.pointer (some ⟨bs, 0, none⟩), .pointer (some ⟨bk, 0, none⟩)]] W fun e w' => e = .returned (.int .i64 c) ∧ ∃ q, w' = W.drewN q := by
  have CS : Hid (W.cell? ⟨bs, 0, none⟩ = some (.slice (some ⟨g, 0, none⟩) n cap)) := cs
  have CK : Hid (W.cell? ⟨bk, 0, none⟩ = some (.int .u64 k)) := ck
  have CX : Hid (∀ i, i < n → W.cell? ⟨g, i * 2 + 1, none⟩ = some (.int .u64 (x i))) := cx
  have HLO : Hid (∀ i, i < c → x i < k - 1) := hlo
  have HHI : Hid (∀ i, c ≤ i → i < n → k - 1 ≤ x i) := hhi
  clear cs ck cx hlo hhi
  go_enter Yba.func12, Yba.ntmps12
  go_wp2
  go_loopg [5, 6] n (fun kx s5 s6 wr => ∃ (lo hi q : Nat), s5 = .int .i64 lo ∧ s6 = .int .i64 hi ∧ lo ≤ c ∧ c ≤ hi ∧ hi ≤ n ∧ hi - lo ≤ kx ∧ wr = W.drewN q)
  case atStart => exact ⟨0, n, 0, rfl, rfl, Nat.zero_le _, hc, Nat.le_refl _, by omega, rfl⟩
  case round =>
    obtain ⟨lo, hi, q, rfl, rfl, hlc, hch, hin, hg, rfl⟩ := hrel
    by_cases hlt : lo < hi
    · have hcall := closure_any bs bk g n cap ((lo + hi) / 2) k (x ((lo + hi) / 2)) (W.drewN q) (by omega) hk1 hk2 CS.out CK.out (CX.out _ (by omega))
      rw [show (((lo + hi) / 2 : Nat) : Int) = ((lo : Int) + (hi : Int)) / 2 by omega] at hcall
      by_cases hm : (lo + hi) / 2 < c
      · have hd : decide (k - 1 ≤ x ((lo + hi) / 2)) = false := by have := HLO.out _ hm; simp; omega
        rw [hd] at hcall
        clear hd
        go_wp2_with (go_at_call 13; refine hcall.mono ?_; rintro e w' ⟨rfl, nq, rfl⟩)
        go_roundg (hi - ((lo + hi) / 2 + 1))
        case measure => omega
        case rel => exact ⟨(lo + hi) / 2 + 1, hi, _, by rw [show ((lo : Int) + (hi : Int)) / 2 + 1 = (((lo + hi) / 2 + 1 : Nat) : Int) by omega], rfl, by omega, hch, hin, Nat.le_refl _, rfl⟩
      · have hd : decide (k - 1 ≤ x ((lo + hi) / 2)) = true := by have := HHI.out ((lo + hi) / 2) (by omega) (by omega); simp; omega
        rw [hd] at hcall
        clear hd
        go_wp2_with (go_at_call 13; refine hcall.mono ?_; rintro e w' ⟨rfl, nq, rfl⟩)
        go_roundg ((lo + hi) / 2 - lo)
        case measure => omega
        case rel => exact ⟨lo, (lo + hi) / 2, _, rfl, by rw [show ((lo : Int) + (hi : Int)) / 2 = (((lo + hi) / 2 : Nat) : Int) by omega], hlc, by omega, by omega, Nat.le_refl _, rfl⟩
    · obtain rfl : c = lo := by omega
      go_wp2
      go_ret
      exact ⟨rfl, q, rfl⟩
end Go.Proofs.Ybulkdqby

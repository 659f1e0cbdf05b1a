import Derived.Test.YbulkdpyeRows
import Derived.Test.YbulkdpyePlain
import Derived.WalkKit
namespace Go.Proofs.Ybulkdpye
open Go.RowKit

set_option maxHeartbeats 400000 in
theorem months_any (s : ByteArray) (w : World) :
    Calls Yba.prog 4 #[.string s] w fun e w' => e = .returned (.int .i64 (mon s.toList)) ∧ w' = w := by
  cases h1 : (s.toList == [113, 117, 97, 114, 116, 101, 114, 108, 121])
  · cases h2 : (s.toList == [97, 110, 110, 117, 97, 108])
    · have hm : mon s.toList = 1 := by simp only [mon, h1, h2]; rfl
      rw [hm]; clear hm
      go_enter Yba.func4, Yba.ntmps4
      go_wp2
      go_ret
      exact ⟨rfl, rfl⟩
    · have hm : mon s.toList = 12 := by simp only [mon, h1, h2]; rfl
      rw [hm]; clear hm
      go_enter Yba.func4, Yba.ntmps4
      go_wp2
      go_ret
      exact ⟨rfl, rfl⟩
  · have hm : mon s.toList = 3 := by simp only [mon, h1]; rfl
    rw [hm]; clear hm
    go_enter Yba.func4, Yba.ntmps4
    go_wp2
    go_ret
    exact ⟨rfl, rfl⟩

set_option maxHeartbeats 1000000 in
theorem model9 (s : ByteArray) (w : World) (h9 : s.size = 9) :
    Calls Yba.prog 5 #[.string s] w fun e w' => e = .returned (.int .i64 (mon s.toList)) ∧ w' = w := by
  have H := mon9 s h9
  generalize mon s.toList = m at H ⊢
  have HM : Hid (m = if ((s[0].toNat : Int) = 113 ∧ (s[1].toNat : Int) = 117 ∧ (s[2].toNat : Int) = 97 ∧ (s[3].toNat : Int) = 114 ∧ (s[4].toNat : Int) = 116 ∧ (s[5].toNat : Int) = 101 ∧ (s[6].toNat : Int) = 114 ∧ (s[7].toNat : Int) = 108 ∧ (s[8].toNat : Int) = 121) then 3 else 1) := H
  clear H
  go_enter Yba.func5, Yba.ntmps5
  go_wp2
  · go_ret
    have hb : ((s[8].toNat : Int) == 121) = true := by assumption
    exact ⟨ret_int (by rw [HM.out, if_pos ⟨‹_›, ‹_›, ‹_›, ‹_›, ‹_›, ‹_›, ‹_›, ‹_›, eq_of_beq hb⟩]), rfl⟩
  · go_ret
    have hb : ((s[8].toNat : Int) == 121) = false := by assumption
    exact ⟨ret_int (by rw [HM.out, if_neg (fun h => beq_eq_false_iff_ne.1 hb h.2.2.2.2.2.2.2.2)]), rfl⟩
  all_goals
    go_ret
    exact ⟨ret_int (by rw [HM.out, if_neg (by omega)]), rfl⟩

set_option maxHeartbeats 1000000 in
theorem model6 (s : ByteArray) (w : World) (h6 : s.size = 6) :
    Calls Yba.prog 5 #[.string s] w fun e w' => e = .returned (.int .i64 (mon s.toList)) ∧ w' = w := by
  have H := mon6 s h6
  generalize mon s.toList = m at H ⊢
  have HM : Hid (m = if ((s[0].toNat : Int) = 97 ∧ (s[1].toNat : Int) = 110 ∧ (s[2].toNat : Int) = 110 ∧ (s[3].toNat : Int) = 117 ∧ (s[4].toNat : Int) = 97 ∧ (s[5].toNat : Int) = 108) then 12 else 1) := H
  clear H
  go_enter Yba.func5, Yba.ntmps5
  go_wp2
  · go_ret
    have hb : ((s[5].toNat : Int) == 108) = true := by assumption
    exact ⟨ret_int (by rw [HM.out, if_pos ⟨‹_›, ‹_›, ‹_›, ‹_›, ‹_›, eq_of_beq hb⟩]), rfl⟩
  · go_ret
    have hb : ((s[5].toNat : Int) == 108) = false := by assumption
    exact ⟨ret_int (by rw [HM.out, if_neg (fun h => beq_eq_false_iff_ne.1 hb h.2.2.2.2.2)]), rfl⟩
  all_goals
    go_ret
    exact ⟨ret_int (by rw [HM.out, if_neg (by omega)]), rfl⟩

set_option maxHeartbeats 1000000 in
set_option linter.unusedVariables false in
theorem model0 (s : ByteArray) (w : World) (hs : s.size ≤ maxLen) (h9 : s.size ≠ 9) (h6 : s.size ≠ 6) :
    Calls Yba.prog 5 #[.string s] w fun e w' => e = .returned (.int .i64 (mon s.toList)) ∧ w' = w := by
  rw [mon0 s h9 h6]
  unfold maxLen at hs
  have e9 : ((s.size : Int) == 9) = false := by rw [beq_eq_false_iff_ne]; omega
  have e6 : ((s.size : Int) == 6) = false := by rw [beq_eq_false_iff_ne]; omega
  clear h9 h6
  go_enter Yba.func5, Yba.ntmps5
  go_wp2
  go_ret
  exact ⟨rfl, rfl⟩

theorem model_any (s : ByteArray) (w : World) (hs : s.size ≤ maxLen) :
    Calls Yba.prog 5 #[.string s] w fun e w' => e = .returned (.int .i64 (mon s.toList)) ∧ w' = w := by
  by_cases h9 : s.size = 9
  · exact model9 s w h9
  · by_cases h6 : s.size = 6
    · exact model6 s w h6
    · exact model0 s w hs h9 h6
end Go.Proofs.Ybulkdpye

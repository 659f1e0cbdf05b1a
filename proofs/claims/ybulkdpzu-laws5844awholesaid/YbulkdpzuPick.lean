import Derived.Test.YbulkdpzuRows
import Derived.WalkKit
import Derived.WalkLawsBesides
import Derived.WalkSpells
import Derived.LaidEqlPtr
namespace Go.Proofs.Ybulkdpzu
open Go.RowKit

section
variable {P : Program} (w : World)
/-- '!=' between a pointer and itself (nil or not). -/
theorem run_neq_ptr_same {tp te : TypeId} {j : TypeInfo} (p : Option Addr) (hp : P.underlying tp = some (.pointer te)) (hte : P.info? te = some j) :
    (binOp .neq tp (.pointer p) (.pointer p)).run P w = .ok (.bool false) w := by
  have h : ∀ d : Nat, (Op.equalIn (d + 1) tp (.pointer p) (.pointer p)).run P w = .ok true w := fun d => by
    cases p <;> simp [Op.equalIn, run_underlying hp, sizeOf, typeInfo, hte, run_sameAddr_same]
  simp only [binOp]
  simp [Op.equal, Op.maxDepth, h 9999]
end

theorem info102 : ∃ j, Yba.prog.info? 102 = some j := by
  have h : (Yba.prog.info? 102).isSome = true := by kernel_rfl
  exact Option.isSome_iff_exists.1 h
theorem info23 : ∃ j, Yba.prog.info? 23 = some j := by
  have h : (Yba.prog.info? 23).isSome = true := by kernel_rfl
  exact Option.isSome_iff_exists.1 h
theorem neq23 (p : Option Addr) (w : World) : (binOp .neq 23 (.pointer p) (.pointer p)).run Yba.prog w = .ok (.bool false) w := by
  obtain ⟨j, hj⟩ := info102
  exact run_neq_ptr_same w p Yba.underlying23 hj
theorem neq107 (p : Option Addr) (w : World) : (binOp .neq 107 (.pointer p) (.pointer p)).run Yba.prog w = .ok (.bool false) w := by
  obtain ⟨j, hj⟩ := info23
  exact run_neq_ptr_same w p Yba.underlying107 hj

/-- What 'zzs5844apick' answers: the pool's pointers lead to the blocks B, B+1, B+2. -/
def pk (B : Nat) (p : Int) : Option Addr :=
  if p % 4 = 0 then some ⟨B, 0, none⟩ else if p % 4 = 1 then some ⟨B + 1, 0, none⟩ else if p % 4 = 2 then some ⟨B + 2, 0, none⟩ else none

set_option maxHeartbeats 400000 in
theorem pick_any (bp B : Nat) (p : Int) (w : World) (hp0 : 0 ≤ p) (hp1 : p ≤ 255)
    (c0 : w.cell? ⟨bp, 0, none⟩ = some (.pointer (some ⟨B, 0, none⟩))) (c1 : w.cell? ⟨bp, 1, none⟩ = some (.pointer (some ⟨B + 1, 0, none⟩))) (c2 : w.cell? ⟨bp, 2, none⟩ = some (.pointer (some ⟨B + 2, 0, none⟩))) :
    Calls Yba.prog 4 #[.pointer (some ⟨bp, 0, none⟩), .int .u8 p] w fun e w' => e = .returned (.pointer (pk B p)) ∧ w' = w := by
  by_cases h0 : p % 4 = 0
  · have hm : pk B p = some ⟨B, 0, none⟩ := by rw [pk, if_pos h0]
    rw [hm]; clear hm
    have e0 : (p % 4 == 0) = true := by rw [beq_iff_eq]; exact h0
    clear h0
    go_enter Yba.func4, Yba.ntmps4
    go_wp2
    go_ret
    exact ⟨rfl, rfl⟩
  · have e0 : (p % 4 == 0) = false := by rw [beq_eq_false_iff_ne]; exact h0
    by_cases h1 : p % 4 = 1
    · have hm : pk B p = some ⟨B + 1, 0, none⟩ := by rw [pk, if_neg h0, if_pos h1]
      rw [hm]; clear hm
      have e1 : (p % 4 == 1) = true := by rw [beq_iff_eq]; exact h1
      clear h0 h1
      go_enter Yba.func4, Yba.ntmps4
      go_wp2
      go_ret
      exact ⟨rfl, rfl⟩
    · have e1 : (p % 4 == 1) = false := by rw [beq_eq_false_iff_ne]; exact h1
      by_cases h2 : p % 4 = 2
      · have hm : pk B p = some ⟨B + 2, 0, none⟩ := by rw [pk, if_neg h0, if_neg h1, if_pos h2]
        rw [hm]; clear hm
        have e2 : (p % 4 == 2) = true := by rw [beq_iff_eq]; exact h2
        clear h0 h1 h2
        go_enter Yba.func4, Yba.ntmps4
        go_wp2
        go_ret
        exact ⟨rfl, rfl⟩
      · have hm : pk B p = none := by rw [pk, if_neg h0, if_neg h1, if_neg h2]
        rw [hm]; clear hm
        have e2 : (p % 4 == 2) = false := by rw [beq_eq_false_iff_ne]; exact h2
        clear h0 h1 h2
        go_enter Yba.func4, Yba.ntmps4
        go_wp2
        go_ret
        exact ⟨rfl, rfl⟩
end Go.Proofs.Ybulkdpzu

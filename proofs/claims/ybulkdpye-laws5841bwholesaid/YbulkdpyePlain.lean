import Derived.WalkKit
namespace Go.Proofs.Ybulkdpye

/-- The months of a period by its text: the plain function. -/
def mon (l : List UInt8) : Int :=
  if l == [113, 117, 97, 114, 116, 101, 114, 108, 121] then 3 else if l == [97, 110, 110, 117, 97, 108] then 12 else 1

theorem nine {l : List UInt8} (h : l.length = 9) : ∃ a b c d e f g i j, l = [a, b, c, d, e, f, g, i, j] := by
  match l, h with
  | [a, b, c, d, e, f, g, i, j], _ => exact ⟨a, b, c, d, e, f, g, i, j, rfl⟩
theorem six {l : List UInt8} (h : l.length = 6) : ∃ a b c d e f, l = [a, b, c, d, e, f] := by
  match l, h with
  | [a, b, c, d, e, f], _ => exact ⟨a, b, c, d, e, f, rfl⟩
theorem byteEq (a b : UInt8) : (a = b) = ((a.toNat : Int) = (b.toNat : Int)) := by
  apply propext
  constructor
  · intro h; rw [h]
  · intro h; exact UInt8.toNat_inj.mp (by omega)

theorem mon9 (s : ByteArray) (h9 : s.size = 9) : mon s.toList = if ((s[0].toNat : Int) = 113 ∧ (s[1].toNat : Int) = 117 ∧ (s[2].toNat : Int) = 97 ∧ (s[3].toNat : Int) = 114 ∧ (s[4].toNat : Int) = 116 ∧ (s[5].toNat : Int) = 101 ∧ (s[6].toNat : Int) = 114 ∧ (s[7].toNat : Int) = 108 ∧ (s[8].toNat : Int) = 121) then 3 else 1 := by
  rw [ByteArray.toList_eq]
  obtain ⟨⟨l⟩⟩ := s
  obtain ⟨a, b, c, d, e, f, g, i, j, rfl⟩ := nine (l := l) h9
  simp only [mon]
  simp [byteEq]
  rfl
theorem mon6 (s : ByteArray) (h6 : s.size = 6) : mon s.toList = if ((s[0].toNat : Int) = 97 ∧ (s[1].toNat : Int) = 110 ∧ (s[2].toNat : Int) = 110 ∧ (s[3].toNat : Int) = 117 ∧ (s[4].toNat : Int) = 97 ∧ (s[5].toNat : Int) = 108) then 12 else 1 := by
  rw [ByteArray.toList_eq]
  obtain ⟨⟨l⟩⟩ := s
  obtain ⟨a, b, c, d, e, f, rfl⟩ := six (l := l) h6
  simp only [mon]
  simp [byteEq]
  rfl
theorem mon0 (s : ByteArray) (h9 : s.size ≠ 9) (h6 : s.size ≠ 6) : mon s.toList = 1 := by
  rw [ByteArray.toList_eq]
  obtain ⟨⟨l⟩⟩ := s
  have h9' : l.length ≠ 9 := h9
  have h6' : l.length ≠ 6 := h6
  have e9 : (l == [113, 117, 97, 114, 116, 101, 114, 108, 121]) = false := by
    rw [beq_eq_false_iff_ne]; intro h; rw [h] at h9'; exact h9' rfl
  have e6 : (l == [97, 110, 110, 117, 97, 108]) = false := by
    rw [beq_eq_false_iff_ne]; intro h; rw [h] at h6'; exact h6' rfl
  simp only [mon, e9, e6]
  rfl
theorem ret_int {k : IntKind} {a b : Int} (h : a = b) : Ending.returned (.int k a) = .returned (.int k b) := by rw [h]
end Go.Proofs.Ybulkdpye

import Derived.Test.YbulkdqbyPlain
namespace Go.Proofs.Ybulkdqby

theorem fi_set_ne (L : List (Int × Int)) (i j : Nat) (p : Int × Int) (h : i ≠ j) : fi (L.set i p) j = fi L j := by
  simp [fi, List.getElem?_set_ne h]
theorem la_set_ne (L : List (Int × Int)) (i j : Nat) (p : Int × Int) (h : i ≠ j) : la (L.set i p) j = la L j := by
  simp [la, List.getElem?_set_ne h]
theorem fi_set_eq (L : List (Int × Int)) (i : Nat) (p : Int × Int) (h : i < L.length) : fi (L.set i p) i = p.1 := by
  simp [fi, h]
theorem bridge_list (L : List (Int × Int)) (c : Nat) (p : Int × Int) (h : c < L.length) : (L.set c p).take (c + 1) ++ (L.set c p).drop (c + 2) = L.take c ++ p :: L.drop (c + 2) := by
  induction L generalizing c with
  | nil => simp at h
  | cons q r ih =>
    cases c with
    | zero => simp
    | succ c =>
      have := ih c (by simpa using h)
      simpa using this
end Go.Proofs.Ybulkdqby

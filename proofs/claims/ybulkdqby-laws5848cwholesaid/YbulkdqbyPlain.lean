import Derived.WalkKit
namespace Go.Proofs.Ybulkdqby

/-- The cells of a row of stretches. -/
def flat : List (Int × Int) → List Value
  | [] => []
  | p :: r => .int .u64 p.1 :: .int .u64 p.2 :: flat r

def fi (L : List (Int × Int)) (i : Nat) : Int := (L.getD i (0, 0)).1
def la (L : List (Int × Int)) (i : Nat) : Int := (L.getD i (0, 0)).2

theorem flat_length (L : List (Int × Int)) : (flat L).length = L.length * 2 := by
  induction L with
  | nil => rfl
  | cons p r ih => simp [flat, ih]; omega
theorem flat_append (L M : List (Int × Int)) : flat (L ++ M) = flat L ++ flat M := by
  induction L with
  | nil => rfl
  | cons p r ih => simp [flat, ih]
theorem flat_get0 (L : List (Int × Int)) (i : Nat) (h : i < L.length) : (flat L)[i * 2]? = some (.int .u64 (fi L i)) := by
  induction L generalizing i with
  | nil => simp at h
  | cons p r ih =>
    cases i with
    | zero => simp [flat, fi]
    | succ i =>
      have := ih i (by simpa using h)
      rw [show (i + 1) * 2 = i * 2 + 1 + 1 by omega]
      simpa [flat, fi] using this
theorem flat_get1 (L : List (Int × Int)) (i : Nat) (h : i < L.length) : (flat L)[i * 2 + 1]? = some (.int .u64 (la L i)) := by
  induction L generalizing i with
  | nil => simp at h
  | cons p r ih =>
    cases i with
    | zero => simp [flat, la]
    | succ i =>
      have := ih i (by simpa using h)
      rw [show (i + 1) * 2 + 1 = i * 2 + 1 + 1 + 1 by omega]
      simpa [flat, la] using this
theorem flat_take (L : List (Int × Int)) (i : Nat) : flat (L.take i) = (flat L).take (i * 2) := by
  induction L generalizing i with
  | nil => simp [flat]
  | cons p r ih =>
    cases i with
    | zero => simp [flat]
    | succ i =>
      rw [show (i + 1) * 2 = i * 2 + 1 + 1 by omega]
      simp [flat, ih]
theorem flat_drop (L : List (Int × Int)) (i : Nat) : flat (L.drop i) = (flat L).drop (i * 2) := by
  induction L generalizing i with
  | nil => simp [flat]
  | cons p r ih =>
    cases i with
    | zero => simp
    | succ i =>
      rw [show (i + 1) * 2 = i * 2 + 1 + 1 by omega]
      simp [flat, ih]
theorem flat_one (L : List (Int × Int)) : ∀ u ∈ flat L, u.oneCell' = true := by
  induction L with
  | nil => simp [flat]
  | cons p r ih =>
    intro u hu
    simp only [flat, List.mem_cons] at hu
    rcases hu with rfl | rfl | hu
    · rfl
    · rfl
    · exact ih u hu

/-- A well-formed set: increasing stretches, none 0, none touching the next. -/
def WF (L : List (Int × Int)) : Prop := L.Pairwise (fun p q => p.2 + 2 ≤ q.1) ∧ ∀ p ∈ L, 1 ≤ p.1 ∧ p.1 ≤ p.2 ∧ p.2 ≤ 18446744073709551615

theorem wf_nil : WF [] := ⟨List.Pairwise.nil, by simp⟩
theorem wf_snoc {L : List (Int × Int)} {pos a b : Int} (h : WF L) (hp : ∀ p ∈ L, p.2 + 2 ≤ pos) (h1 : 1 ≤ pos) (ha : pos ≤ a) (hab : a ≤ b) (hb : b ≤ 18446744073709551615) : WF (L ++ [(a, b)]) := by
  refine ⟨?_, ?_⟩
  · rw [List.pairwise_append]
    refine ⟨h.1, by simp, fun p hp1 q hq => ?_⟩
    simp at hq
    subst hq
    have := hp p hp1
    simp only
    omega
  · intro p hp1
    rw [List.mem_append] at hp1
    rcases hp1 with hp1 | hp1
    · exact h.2 p hp1
    · simp at hp1
      subst hp1
      simp only
      omega

/-- One round of the law's own merging. -/
def stepN (acc : List (Int × Int)) (p : Int × Int) : List (Int × Int) :=
  match acc.getLast? with
  | none => [p]
  | some q => if q.2 + 1 = p.1 then acc.dropLast ++ [(q.1, p.2)] else acc ++ [p]

theorem stepN_nil (p : Int × Int) : stepN [] p = [p] := rfl
theorem stepN_snoc (acc : List (Int × Int)) (q p : Int × Int) : stepN (acc ++ [q]) p = if q.2 + 1 = p.1 then acc ++ [(q.1, p.2)] else acc ++ [q] ++ [p] := by
  simp [stepN]
theorem fold_sep (X : List (Int × Int)) : ∀ acc : List (Int × Int), (acc ++ X).Pairwise (fun p q => p.2 + 2 ≤ q.1) → X.foldl stepN acc = acc ++ X := by
  induction X with
  | nil => intro acc _; simp
  | cons p r ih =>
    intro acc h
    have hs : stepN acc p = acc ++ [p] := by
      rcases List.eq_nil_or_concat acc with rfl | ⟨b, q, rfl⟩
      · rfl
      · rw [List.concat_eq_append] at h ⊢
        rw [stepN_snoc, if_neg]
        have := (List.pairwise_append.1 h).2.2 q (by simp) p (by simp)
        omega
    rw [List.foldl_cons, hs, ih (acc ++ [p]) (by simpa using h)]
    simp

/-- What 'add' leaves, and whether k was there, told at the split: A what ends more than one below k, B the rest. -/
def out (A B : List (Int × Int)) (k : Int) : List (Int × Int) :=
  match B with
  | [] => A ++ [(k, k)]
  | (a, b) :: r =>
    if k + 1 < a then A ++ (k, k) :: (a, b) :: r
    else if a = k + 1 then A ++ (k, b) :: r
    else if k ≤ b then A ++ (a, b) :: r
    else match r with
      | [] => A ++ [(a, k)]
      | (c, d) :: r' => if c = k + 1 then A ++ (a, d) :: r' else A ++ (a, k) :: (c, d) :: r'

/-- Is k in the set? told at the split. -/
def inB (B : List (Int × Int)) (k : Int) : Bool :=
  match B with
  | [] => false
  | (a, b) :: _ => decide (a ≤ k) && decide (k ≤ b)

theorem wf_split {A B : List (Int × Int)} (h : WF (A ++ B)) : WF A ∧ WF B ∧ ∀ p ∈ A, ∀ q ∈ B, p.2 + 2 ≤ q.1 := by
  have h1 := List.pairwise_append.1 h.1
  exact ⟨⟨h1.1, fun p hp => h.2 p (by simp [hp])⟩, ⟨h1.2.1, fun p hp => h.2 p (by simp [hp])⟩, h1.2.2⟩

/-- There is a split. -/
theorem split_at (L : List (Int × Int)) (k : Int) (h : WF L) : ∃ A B, L = A ++ B ∧ (∀ p ∈ A, p.2 < k - 1) ∧ (∀ p ∈ B, k - 1 ≤ p.2) := by
  induction L with
  | nil => exact ⟨[], [], rfl, by simp, by simp⟩
  | cons p r ih =>
    have hr : WF r := (wf_split (A := [p]) (B := r) h).2.1
    have hp : ∀ q ∈ r, p.2 + 2 ≤ q.1 := (List.pairwise_cons.1 h.1).1
    by_cases hk : p.2 < k - 1
    · obtain ⟨A, B, rfl, hA, hB⟩ := ih hr
      refine ⟨p :: A, B, rfl, ?_, hB⟩
      intro q hq
      rcases List.mem_cons.1 hq with rfl | hq
      · exact hk
      · exact hA q hq
    · refine ⟨[], p :: r, rfl, by simp, ?_⟩
      intro q hq
      rcases List.mem_cons.1 hq with rfl | hq
      · omega
      · have := hp q hq
        have := (hr.2 q hq)
        omega
end Go.Proofs.Ybulkdqby

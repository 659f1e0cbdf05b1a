import Derived.Test.YbulkdqbyLists
namespace Go.Proofs.Ybulkdqby

theorem mem_at (L : List (Int × Int)) (i : Nat) (h : i < L.length) : (fi L i, la L i) ∈ L := by
  have e : L.getD i (0, 0) = L[i] := by simp [h]
  have : (fi L i, la L i) = L[i] := by
    show ((L.getD i (0, 0)).1, (L.getD i (0, 0)).2) = _
    rw [e]
  rw [this]
  exact List.getElem_mem h
theorem at_left (A B : List (Int × Int)) (i : Nat) (h : i < A.length) : fi (A ++ B) i = fi A i ∧ la (A ++ B) i = la A i := by
  simp [fi, la, List.getElem?_append_left h]
theorem at_right (A B : List (Int × Int)) (i : Nat) : fi (A ++ B) (A.length + i) = fi B i ∧ la (A ++ B) (A.length + i) = la B i := by
  have e : (A ++ B)[A.length + i]? = B[i]? := by
    rw [List.getElem?_append_right (by omega)]
    congr 1
    omega
  simp [fi, la, e]
theorem at_mid (A r : List (Int × Int)) (p : Int × Int) : fi (A ++ p :: r) A.length = p.1 ∧ la (A ++ p :: r) A.length = p.2 := by
  simp [fi, la]
theorem at_mid2 (A r : List (Int × Int)) (p q : Int × Int) : fi (A ++ p :: q :: r) (A.length + 1) = q.1 ∧ la (A ++ p :: q :: r) (A.length + 1) = q.2 := by
  have := at_right A (p :: q :: r) 1
  exact ⟨this.1.trans (by simp [fi]), this.2.trans (by simp [la])⟩
theorem set_mid (A r : List (Int × Int)) (p q : Int × Int) : (A ++ p :: r).set A.length q = A ++ q :: r := by
  simp

/-- k among the first j stretches? -/
def wasTo (L : List (Int × Int)) (k : Int) : Nat → Bool
  | 0 => false
  | j + 1 => wasTo L k j || (decide (fi L j ≤ k) && decide (k ≤ la L j))

theorem wasTo_iff (L : List (Int × Int)) (k : Int) (j : Nat) : wasTo L k j = true ↔ ∃ i, i < j ∧ fi L i ≤ k ∧ k ≤ la L i := by
  induction j with
  | zero => simp [wasTo]
  | succ j ih =>
    simp only [wasTo, Bool.or_eq_true, Bool.and_eq_true, decide_eq_true_eq, ih]
    constructor
    · rintro (⟨i, h1, h2⟩ | h)
      · exact ⟨i, by omega, h2⟩
      · exact ⟨j, by omega, h⟩
    · rintro ⟨i, h1, h2⟩
      by_cases e : i = j
      · subst e; exact .inr h2
      · exact .inl ⟨i, by omega, h2⟩

/-- Where the law inserts, behind j rounds. -/
def PosTo (L : List (Int × Int)) (k : Int) (j pos : Nat) : Prop :=
  (pos = L.length ∧ ∀ i, i < j → fi L i ≤ k) ∨ (pos < L.length ∧ k < fi L pos ∧ ∀ i, i < pos → fi L i ≤ k)

section
variable {A B : List (Int × Int)} {k : Int}

/-- What the split gives by places. -/
theorem split_places (hA : ∀ p ∈ A, p.2 < k - 1) (hB : ∀ p ∈ B, k - 1 ≤ p.2) :
    (∀ i, i < A.length → la (A ++ B) i < k - 1) ∧ (∀ i, A.length ≤ i → i < (A ++ B).length → k - 1 ≤ la (A ++ B) i) := by
  refine ⟨fun i hi => ?_, fun i h1 h2 => ?_⟩
  · rw [(at_left A B i hi).2]; exact hA _ (mem_at A i hi)
  · obtain ⟨j, rfl⟩ : ∃ j, i = A.length + j := ⟨i - A.length, by omega⟩
    rw [(at_right A B j).2]
    exact hB _ (mem_at B j (by simp at h2; omega))

theorem bd_at {L : List (Int × Int)} (h : WF L) (i : Nat) (hi : i < L.length) : 1 ≤ fi L i ∧ fi L i ≤ la L i ∧ la L i ≤ 18446744073709551615 := h.2 _ (mem_at L i hi)

theorem was_eq (h : WF (A ++ B)) (hA : ∀ p ∈ A, p.2 < k - 1) (hB : ∀ p ∈ B, k - 1 ≤ p.2) : wasTo (A ++ B) k (A ++ B).length = inB B k := by
  rw [Bool.eq_iff_iff, wasTo_iff]
  obtain ⟨p1, p2⟩ := split_places hA hB
  constructor
  · rintro ⟨i, hi, h1, h2⟩
    have hAi : A.length ≤ i := by
      rcases Nat.lt_or_ge i A.length with hlt | hge
      · have := p1 i hlt; omega
      · exact hge
    cases B with
    | nil => simp at hi; omega
    | cons p r =>
      obtain ⟨a, b⟩ := p
      by_cases e : i = A.length
      · subst e
        rw [(at_mid A r (a, b)).1] at h1
        rw [(at_mid A r (a, b)).2] at h2
        simp only at h1 h2
        simp [inB, h1, h2]
      · exfalso
        obtain ⟨j, rfl⟩ : ∃ j, i = A.length + (j + 1) := ⟨i - A.length - 1, by omega⟩
        have hr : WF ((a, b) :: r) := (wf_split h).2.1
        have hj : j < r.length := by simp at hi; omega
        have hm := (List.pairwise_cons.1 hr.1).1 _ (mem_at r j hj)
        have e2 := (at_right A ((a, b) :: r) (j + 1)).1
        have e3 : fi ((a, b) :: r) (j + 1) = fi r j := by simp [fi]
        have := hB (a, b) (by simp)
        rw [e2, e3] at h1
        simp only at hm this
        omega
  · intro hin
    cases B with
    | nil => simp [inB] at hin
    | cons p r =>
      obtain ⟨a, b⟩ := p
      simp only [inB, Bool.and_eq_true, decide_eq_true_eq] at hin
      refine ⟨A.length, by simp, ?_, ?_⟩
      · rw [(at_mid A r (a, b)).1]; exact hin.1
      · rw [(at_mid A r (a, b)).2]; exact hin.2

/-- The place is c where the stretch at c begins behind k. -/
theorem pos_at {L : List (Int × Int)} {c pos : Nat} (hp : PosTo L k L.length pos) (hc : c ≤ L.length) (h1 : ∀ i, i < c → fi L i ≤ k) (h2 : c < L.length → k < fi L c) : pos = c := by
  rcases hp with ⟨rfl, h⟩ | ⟨hlt, hk, h⟩
  · rcases Nat.lt_or_ge c L.length with hlt | hge
    · have := h c hlt; have := h2 hlt; omega
    · omega
  · rcases Nat.lt_trichotomy pos c with hh | hh | hh
    · have := h1 pos hh; omega
    · exact hh
    · have := h c hh; have := h2 (by omega); omega

theorem fi_left (h : WF (A ++ B)) (hA : ∀ p ∈ A, p.2 < k - 1) (i : Nat) (hi : i < A.length) : fi (A ++ B) i ≤ k := by
  have h1 := hA _ (mem_at A i hi)
  have h2 := (wf_split h).1.2 _ (mem_at A i hi)
  rw [(at_left A B i hi).1]
  simp only at h1 h2
  omega

theorem pw_app {X Y : List (Int × Int)} (hX : X.Pairwise (fun p q => p.2 + 2 ≤ q.1)) (hY : Y.Pairwise (fun p q => p.2 + 2 ≤ q.1)) (h : ∀ p ∈ X, ∀ q ∈ Y, p.2 + 2 ≤ q.1) : (X ++ Y).Pairwise (fun p q => p.2 + 2 ≤ q.1) :=
  List.pairwise_append.2 ⟨hX, hY, h⟩

theorem want_eq (h : WF (A ++ B)) (hA : ∀ p ∈ A, p.2 < k - 1) (hB : ∀ p ∈ B, k - 1 ≤ p.2) (hnot : inB B k = false) (pos : Nat) (hp : PosTo (A ++ B) k (A ++ B).length pos) :
    ((A ++ B).take pos ++ (k, k) :: (A ++ B).drop pos).foldl stepN [] = out A B k := by
  obtain ⟨wA, wB, hAB⟩ := wf_split h
  have hl := fun i hi => fi_left h hA i hi
  cases B with
  | nil =>
    have hpos : pos = A.length := pos_at hp (by simp) (fun i hi => hl i hi) (fun hlt => by simp at hlt)
    subst hpos
    simp only [List.append_nil, List.take_length, List.drop_length, out]
    rw [fold_sep _ [] (by
      rw [List.nil_append]
      refine pw_app wA.1 (by simp) fun p hp1 q hq => ?_
      simp at hq; subst hq
      have := hA p hp1
      simp only; omega)]
    rfl
  | cons p r =>
    obtain ⟨a, b⟩ := p
    have hb := hB (a, b) (by simp)
    have hpr := List.pairwise_cons.1 wB.1
    have hab := wB.2 (a, b) (by simp)
    simp only at hb hab
    have ltA : ∀ p ∈ A, p.2 + 2 ≤ k := fun p hp1 => by have := hA p hp1; omega
    have hc1 : fi (A ++ (a, b) :: r) A.length = a := (at_mid A r (a, b)).1
    simp only [out]
    by_cases c1 : k + 1 < a
    · rw [if_pos c1]
      have hpos : pos = A.length := pos_at hp (by simp) (fun i hi => hl i hi) (fun _ => by rw [hc1]; omega)
      subst hpos
      rw [List.take_left, List.drop_left]
      rw [fold_sep _ [] (by
        rw [List.nil_append]
        refine pw_app wA.1 (List.pairwise_cons.2 ⟨fun q hq => ?_, wB.1⟩) fun p hp1 q hq => ?_
        · rcases List.mem_cons.1 hq with rfl | hq
          · simp only; omega
          · have := hpr.1 q hq; have := (wB.2 q (by simp [hq])); simp only at *; omega
        · rcases List.mem_cons.1 hq with rfl | hq
          · have := ltA p hp1; simp only; omega
          · exact hAB p hp1 q hq)]
      rfl
    · rw [if_neg c1]
      by_cases c2 : a = k + 1
      · rw [if_pos c2]
        have hpos : pos = A.length := pos_at hp (by simp) (fun i hi => hl i hi) (fun _ => by rw [hc1]; omega)
        subst hpos
        rw [List.take_left, List.drop_left]
        rw [show A ++ (k, k) :: (a, b) :: r = (A ++ [(k, k)]) ++ (a, b) :: r by simp, List.foldl_append, fold_sep (A ++ [(k, k)]) [] (by
          rw [List.nil_append]
          refine pw_app wA.1 (by simp) fun p hp1 q hq => ?_
          simp at hq; subst hq
          have := ltA p hp1
          simp only; omega), List.nil_append, List.foldl_cons, stepN_snoc, if_pos (by simp only; omega)]
        rw [fold_sep r _ (by
          rw [List.append_assoc]
          refine pw_app wA.1 (List.pairwise_cons.2 ⟨fun q hq => ?_, hpr.2⟩) fun p hp1 q hq => ?_
          · have := hpr.1 q hq; simp only at *; omega
          · rcases List.mem_cons.1 hq with rfl | hq
            · have := ltA p hp1; simp only; omega
            · exact hAB p hp1 q (List.mem_cons_of_mem _ (by exact hq)))]
        simp
      · rw [if_neg c2]
        have hnk : ¬ k ≤ b := by
          intro hkb
          simp only [inB, Bool.and_eq_false_iff, decide_eq_false_iff_not] at hnot
          omega
        rw [if_neg hnk]
        have hbk : b = k - 1 := by omega
        have hpos : pos = A.length + 1 := by
          refine pos_at hp (by simp) (fun i hi => ?_) (fun hlt => ?_)
          · rcases Nat.lt_or_ge i A.length with h1 | h1
            · exact hl i h1
            · obtain rfl : i = A.length := by omega
              rw [hc1]; omega
          · cases r with
            | nil => simp at hlt
            | cons q r' =>
              rw [(at_mid2 A r' (a, b) q).1]
              have := hpr.1 q (by simp)
              simp only at this
              omega
        subst hpos
        have et : (A ++ (a, b) :: r).take (A.length + 1) = A ++ [(a, b)] := by
          rw [show A ++ (a, b) :: r = (A ++ [(a, b)]) ++ r by simp, show A.length + 1 = (A ++ [(a, b)]).length by simp, List.take_left]
        have ed : (A ++ (a, b) :: r).drop (A.length + 1) = r := by
          rw [show A ++ (a, b) :: r = (A ++ [(a, b)]) ++ r by simp, show A.length + 1 = (A ++ [(a, b)]).length by simp, List.drop_left]
        rw [et, ed, List.foldl_append, fold_sep (A ++ [(a, b)]) [] (by
          rw [List.nil_append]
          refine pw_app wA.1 (by simp) fun p hp1 q hq => ?_
          simp at hq; subst hq
          exact hAB p hp1 (a, b) (by simp)), List.nil_append, List.foldl_cons, stepN_snoc, if_pos (by simp only; omega)]
        have hAa : ∀ p ∈ A, p.2 + 2 ≤ a := fun p hp1 => hAB p hp1 (a, b) (by simp)
        cases r with
        | nil => simp
        | cons q r' =>
          obtain ⟨cc, d⟩ := q
          have hq1 := hpr.1 (cc, d) (by simp)
          have hpr2 := List.pairwise_cons.1 hpr.2
          simp only at hq1
          simp only
          by_cases c3 : cc = k + 1
          · rw [if_pos c3, List.foldl_cons, stepN_snoc, if_pos (by simp only; omega)]
            rw [fold_sep r' _ (by
              rw [List.append_assoc]
              refine pw_app wA.1 (List.pairwise_cons.2 ⟨fun q hq => ?_, hpr2.2⟩) fun p hp1 q hq => ?_
              · have := hpr2.1 q hq; simp only at *; omega
              · rcases List.mem_cons.1 hq with rfl | hq
                · exact hAa p hp1
                · exact hAB p hp1 q (List.mem_cons_of_mem _ (List.mem_cons_of_mem _ (by exact hq))))]
            simp
          · rw [if_neg c3]
            rw [fold_sep _ _ (by
              rw [List.append_assoc]
              refine pw_app wA.1 (List.pairwise_cons.2 ⟨fun q hq => ?_, hpr.2⟩) fun p hp1 q hq => ?_
              · rcases List.mem_cons.1 hq with rfl | hq
                · simp only; omega
                · have := hpr2.1 q hq; have := wB.2 (cc, d) (by simp); simp only at *; omega
              · rcases List.mem_cons.1 hq with rfl | hq
                · exact hAa p hp1
                · exact hAB p hp1 q (List.mem_cons_of_mem _ (by exact hq)))]
            simp

theorem out_in (hin : inB B k = true) : out A B k = A ++ B := by
  cases B with
  | nil => simp [inB] at hin
  | cons p r =>
    obtain ⟨a, b⟩ := p
    simp only [inB, Bool.and_eq_true, decide_eq_true_eq] at hin
    simp only [out]
    rw [if_neg (by omega), if_neg (by omega), if_pos (by omega)]
end
end Go.Proofs.Ybulkdqby

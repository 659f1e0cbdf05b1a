import Derived.Test.YbulkdqbyLaws
import Derived.Test.YbulkdqbyAdd
import Derived.Test.YbulkdqbyAdd2
import Derived.Test.YbulkdqbyAdd3
import Derived.Test.YbulkdqbyAdd4
namespace Go.Proofs.Ybulkdqby
open Go.RowKit

/-- 'add', whatever the set and k: told at the split. -/
theorem add_all (w : World) (base bn g n cap : Nat) (k : Int) (A B : List (Int × Int)) (hpre : Pre w base bn g n cap (A ++ B)) (hn : n ≤ 1048576) (hk1 : 1 ≤ k) (hk2 : k ≤ 18446744073709551615)
    (h : WF (A ++ B)) (hA : ∀ p ∈ A, p.2 < k - 1) (hB : ∀ p ∈ B, k - 1 ≤ p.2) :
    Calls Yba.prog 9 #[.pointer (some ⟨bn, 0, none⟩), .int .u64 k] w fun e w' => e = .returned (.bool (!inB B k)) ∧ ∃ g' cap', Added w w' base bn g (out A B k) g' cap' := by
  have hlen := hpre.len
  obtain ⟨p1, p2⟩ := split_places hA hB
  obtain ⟨wA, wB, hAB⟩ := wf_split h
  rw [hlen] at p2
  have rest : (∀ m, n = m + 1 → la (A ++ B) m ≠ k - 1) → Rest n A.length k (A ++ B) := fun hnl =>
    ⟨hn, hk1, hk2, hnl, by rw [← hlen]; simp, p1, p2, fun i hi => bd_at h i (by rw [hlen]; exact hi)⟩
  cases B with
  | nil =>
    have hc : A.length = n := by rw [← hlen]; simp
    have hr := rest (fun m hm => by have := p1 m (by omega); omega)
    refine (add_new w base bn g n cap A.length k _ hpre hr (.inl hc)).mono ?_
    rintro e w' ⟨rfl, g', cap', ha⟩
    refine ⟨rfl, g', cap', ?_⟩
    simpa [out] using ha
  | cons p r =>
    obtain ⟨a, b⟩ := p
    have hb := hB (a, b) (by simp)
    have hab := wB.2 (a, b) (by simp)
    have hpr := List.pairwise_cons.1 wB.1
    simp only at hb hab
    obtain ⟨m1, m2⟩ := at_mid A r (a, b)
    simp only at m1 m2
    have hc : A.length < n := by rw [← hlen]; simp
    by_cases hX : r = [] ∧ b = k - 1
    · obtain ⟨rfl, hbk⟩ := hX
      obtain rfl : n = A.length + 1 := by rw [← hlen]; simp
      refine (add_last w base bn g A.length cap k _ hpre hn hk1 hk2 (by rw [m2]; exact hbk)).mono ?_
      rintro e w' ⟨rfl, ha⟩
      rw [m1, set_mid] at ha
      refine ⟨?_, g, cap, ?_⟩
      · have : inB [(a, b)] k = false := by simp [inB]; omega
        rw [this]; rfl
      · simp only [out]
        rw [if_neg (by omega), if_neg (by omega), if_neg (by omega)]
        exact ha
    · have hr := rest (fun m hm hla => by
        cases r with
        | nil =>
          obtain rfl : m = A.length := by simp at hlen; omega
          rw [m2] at hla
          exact hX ⟨rfl, hla⟩
        | cons q r' =>
          have hl2 : A.length + 1 ≤ m := by simp at hlen; omega
          obtain ⟨j, rfl⟩ : ∃ j, m = A.length + (j + 1) := ⟨m - A.length - 1, by omega⟩
          have hj : j < (q :: r').length := by simp at hlen ⊢; omega
          have e1 := (at_right A ((a, b) :: q :: r') (j + 1)).2
          have e2 : la ((a, b) :: q :: r') (j + 1) = la (q :: r') j := by simp [la]
          rw [e1, e2] at hla
          have h1 := hpr.1 _ (mem_at (q :: r') j hj)
          have h2 := wB.2 _ (List.mem_cons_of_mem (a, b) (mem_at (q :: r') j hj))
          simp only at h1 h2
          omega)
      by_cases c1 : k + 1 < a
      · refine (add_new w base bn g n cap A.length k _ hpre hr (.inr ⟨hc, by rw [m1]; omega⟩)).mono ?_
        rintro e w' ⟨rfl, g', cap', ha⟩
        rw [List.take_left, List.drop_left] at ha
        refine ⟨?_, g', cap', ?_⟩
        · have : inB ((a, b) :: r) k = false := by simp [inB]; omega
          rw [this]; rfl
        · simp only [out]; rw [if_pos c1]; exact ha
      · by_cases c2 : a = k + 1
        · refine (add_below w base bn g n cap A.length k _ hpre hr hc (by rw [m1]; exact c2)).mono ?_
          rintro e w' ⟨rfl, ha⟩
          rw [m2, set_mid] at ha
          refine ⟨?_, g, cap, ?_⟩
          · have : inB ((a, b) :: r) k = false := by simp [inB]; omega
            rw [this]; rfl
          · simp only [out]; rw [if_neg c1, if_pos c2]; exact ha
        · by_cases c3 : k ≤ b
          · refine (add_in w base bn g n cap A.length k _ hpre hr hc (by rw [m1]; omega) (by rw [m2]; exact c3)).mono ?_
            rintro e w' ⟨rfl, ha⟩
            refine ⟨?_, g, cap, ?_⟩
            · have : inB ((a, b) :: r) k = true := by simp [inB]; omega
              rw [this]; rfl
            · simp only [out]; rw [if_neg c1, if_neg c2, if_pos c3]; exact ha
          · have hnot : inB ((a, b) :: r) k = false := by simp [inB]; omega
            have hbk : b = k - 1 := by omega
            cases r with
            | nil => exact absurd ⟨rfl, hbk⟩ hX
            | cons q r' =>
              obtain ⟨cc, d⟩ := q
              obtain ⟨m3, m4⟩ := at_mid2 A r' (a, b) (cc, d)
              simp only at m3 m4
              have hc2 : A.length + 1 < n := by rw [← hlen]; simp
              by_cases c4 : cc = k + 1
              · refine (add_bridge w base bn g n cap A.length k _ hpre hr hc hc2 (by rw [m2]; exact hbk) (by rw [m3]; omega)).mono ?_
                rintro e w' ⟨rfl, g', cap', ha⟩
                have ed : (A ++ (a, b) :: (cc, d) :: r').drop (A.length + 2) = r' := by
                  rw [show A ++ (a, b) :: (cc, d) :: r' = (A ++ [(a, b), (cc, d)]) ++ r' by simp, show A.length + 2 = (A ++ [(a, b), (cc, d)]).length by simp, List.drop_left]
                rw [m1, m4, List.take_left, ed] at ha
                refine ⟨by rw [hnot]; rfl, g', cap', ?_⟩
                simp only [out]; rw [if_neg c1, if_neg c2, if_neg c3, if_pos c4]; exact ha
              · refine (add_behind w base bn g n cap A.length k _ hpre hr hc hc2 (by rw [m2]; exact hbk) (by rw [m3]; omega)).mono ?_
                rintro e w' ⟨rfl, ha⟩
                rw [m1, set_mid] at ha
                refine ⟨by rw [hnot]; rfl, g, cap, ?_⟩
                simp only [out]; rw [if_neg c1, if_neg c2, if_neg c3, if_neg c4]; exact ha
end Go.Proofs.Ybulkdqby

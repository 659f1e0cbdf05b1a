import Derived.Test.YbulkdqbyCopy
namespace Go.Proofs.Ybulkdqby
open Go.RowKit

/-- The merging behind j rounds. -/
def foldTo (I : List (Int × Int)) (j : Nat) : List (Int × Int) := (I.take j).foldl stepN []

theorem foldTo_zero (I : List (Int × Int)) : foldTo I 0 = [] := rfl
theorem foldTo_succ (I : List (Int × Int)) (j : Nat) (h : j < I.length) : foldTo I (j + 1) = stepN (foldTo I j) (fi I j, la I j) := by
  have e : (fi I j, la I j) = I[j] := by simp [fi, la, h]
  rw [foldTo, List.take_succ_eq_append_getElem h, List.foldl_append, e]
  rfl
theorem foldTo_all (I : List (Int × Int)) (n : Nat) (h : I.length = n) : foldTo I n = I.foldl stepN [] := by
  rw [foldTo, List.take_of_length_le (by omega)]

theorem stepN_merge {F : List (Int × Int)} {m : Nat} (h : F.length = m + 1) (p : Int × Int) (he : la F m + 1 = p.1) : stepN F p = F.set m (fi F m, p.2) := by
  rcases List.eq_nil_or_concat F with rfl | ⟨G, q, rfl⟩
  · simp at h
  · rw [List.concat_eq_append] at h he ⊢
    have hm : m = G.length := by simp at h; omega
    subst hm
    have e1 : la (G ++ [q]) G.length = q.2 := (at_mid G [] q).2
    have e2 : fi (G ++ [q]) G.length = q.1 := (at_mid G [] q).1
    rw [e1] at he
    rw [stepN_snoc, if_pos he, e2]
    simp
theorem stepN_push {F : List (Int × Int)} {m : Nat} (h : F.length = m + 1) (p : Int × Int) (he : la F m + 1 ≠ p.1) : stepN F p = F ++ [p] := by
  rcases List.eq_nil_or_concat F with rfl | ⟨G, q, rfl⟩
  · simp at h
  · rw [List.concat_eq_append] at h he ⊢
    have hm : m = G.length := by simp at h; omega
    subst hm
    have e1 : la (G ++ [q]) G.length = q.2 := (at_mid G [] q).2
    rw [e1] at he
    rw [stepN_snoc, if_neg he]

/-- The law's own insertion. -/
def insL (L : List (Int × Int)) (k : Int) (p : Nat) : List (Int × Int) := L.take p ++ (k, k) :: L.drop p

theorem insL_length {L : List (Int × Int)} {k : Int} {p n : Nat} (h : L.length = n) (hp : p ≤ n) : (insL L k p).length = n + 1 := by
  simp [insL]; omega

theorem mem_take_at {L : List (Int × Int)} {p : Nat} {q : Int × Int} (h : q ∈ L.take p) : ∃ i, i < p ∧ i < L.length ∧ q = (fi L i, la L i) := by
  obtain ⟨i, hi, rfl⟩ := List.getElem_of_mem h
  rw [List.length_take] at hi
  refine ⟨i, by omega, by omega, ?_⟩
  rw [List.getElem_take]
  simp [fi, la, show i < L.length by omega]
theorem mem_drop_at {L : List (Int × Int)} {p : Nat} {q : Int × Int} (h : q ∈ L.drop p) : ∃ i, p ≤ i ∧ i < L.length ∧ q = (fi L i, la L i) := by
  obtain ⟨i, hi, rfl⟩ := List.getElem_of_mem h
  rw [List.length_drop] at hi
  refine ⟨p + i, by omega, by omega, ?_⟩
  rw [List.getElem_drop]
  simp [fi, la, show p + i < L.length by omega]

theorem wf_lt {L : List (Int × Int)} (h : WF L) {i j : Nat} (hij : i < j) (hj : j < L.length) : la L i + 2 ≤ fi L j := by
  have := (List.pairwise_iff_getElem.1 h.1) i j (by omega) hj hij
  have e1 : la L i = (L[i]'(by omega)).2 := by simp [la, show i < L.length by omega]
  have e2 : fi L j = L[j].1 := by simp [fi, hj]
  rw [e1, e2]
  exact this

theorem pw_weak {X : List (Int × Int)} (h : X.Pairwise (fun p q => p.2 + 2 ≤ q.1)) : X.Pairwise (fun a b => a.2 < b.1) := by
  rw [List.pairwise_iff_getElem] at h ⊢
  intro i j hi hj hij
  have := h i j hi hj hij
  omega

/-- The insertion is in order. -/
theorem insL_sorted {L : List (Int × Int)} {k : Int} {p n : Nat} (hl : L.length = n) (h : WF L) (hp : PosTo L k n p) (hw : wasTo L k n = false) : (insL L k p).Pairwise (fun a b => a.2 < b.1) := by
  subst hl
  have hnot : ∀ i, i < L.length → ¬ (fi L i ≤ k ∧ k ≤ la L i) := fun i hi hc => by
    have := (wasTo_iff L k L.length).2 ⟨i, hi, hc.1, hc.2⟩
    rw [hw] at this; cases this
  have hlow : ∀ i, i < p → i < L.length → fi L i ≤ k := by
    rcases hp with ⟨rfl, h2⟩ | ⟨_, _, h2⟩
    · exact fun i hi _ => h2 i hi
    · exact fun i hi _ => h2 i hi
  have hhigh : ∀ i, p ≤ i → i < L.length → k < fi L i := fun i hi hil => by
    rcases hp with ⟨rfl, _⟩ | ⟨hp1, hp2, _⟩
    · omega
    · by_cases e : i = p
      · subst e; exact hp2
      · have := wf_lt h (show p < i by omega) hil
        have := bd_at h p hp1
        omega
  rw [insL, List.pairwise_append]
  refine ⟨?_, ?_, ?_⟩
  · exact pw_weak (h.1.sublist (List.take_sublist p L))
  · rw [List.pairwise_cons]
    refine ⟨fun q hq => ?_, ?_⟩
    · obtain ⟨i, hi, hil, rfl⟩ := mem_drop_at hq
      exact hhigh i hi hil
    · exact pw_weak (h.1.sublist (List.drop_sublist p L))
  · intro a ha b hb
    obtain ⟨i, hi, hil, rfl⟩ := mem_take_at ha
    have h1 := hlow i hi hil
    have h2 := hnot i hil
    rcases List.mem_cons.1 hb with rfl | hb
    · simp only; omega
    · obtain ⟨j, hj, hjl, rfl⟩ := mem_drop_at hb
      have h3 := hhigh j hj hjl
      simp only; omega

theorem insL_next {L : List (Int × Int)} {k : Int} {p n : Nat} (hl : L.length = n) (h : WF L) (hp : PosTo L k n p) (hw : wasTo L k n = false) (j : Nat) (hj : j + 1 < (insL L k p).length) : la (insL L k p) j < fi (insL L k p) (j + 1) := by
  have := (List.pairwise_iff_getElem.1 (insL_sorted hl h hp hw)) j (j + 1) (by omega) hj (by omega)
  have e1 : la (insL L k p) j = ((insL L k p)[j]'(by omega)).2 := by simp [la, show j < (insL L k p).length by omega]
  have e2 : fi (insL L k p) (j + 1) = (insL L k p)[j + 1].1 := by simp [fi, hj]
  rw [e1, e2]
  exact this
theorem insL_bd {L : List (Int × Int)} {k : Int} {p : Nat} (h : WF L) (hk1 : 1 ≤ k) (hk2 : k ≤ 18446744073709551615) (j : Nat) (hj : j < (insL L k p).length) : 1 ≤ fi (insL L k p) j ∧ fi (insL L k p) j ≤ la (insL L k p) j ∧ la (insL L k p) j ≤ 18446744073709551615 := by
  have hm := mem_at (insL L k p) j hj
  rw [insL, List.mem_append, List.mem_cons] at hm
  rcases hm with hm | hm | hm
  · exact h.2 _ (List.mem_of_mem_take hm)
  · have e1 := congrArg Prod.fst hm
    have e2 := congrArg Prod.snd hm
    simp only at e1 e2
    rw [show L.take p ++ (k, k) :: L.drop p = insL L k p from rfl] at e1 e2
    omega
  · exact h.2 _ (List.mem_of_mem_drop hm)

/-- A row of the call's own, in a later world that has left it alone. -/
theorem own_below {wa wb : World} {B base size n : Nat} {e : TypeId} {v : Value} {xs : List Value} (h : wa.ownsRow base e size v n xs) (hb : Below B wa wb) (hv : ∀ g, v.ownBlock = some g → g < B) : wb.ownsRow base e size v n xs := by
  refine ⟨h.1, ?_⟩
  rcases h.2 with h2 | ⟨g, cap, cur, rfl, hg, hh, r⟩
  · exact .inl h2
  · exact .inr ⟨g, cap, cur, rfl, hg, by rw [hb.block g (hv g rfl)]; exact hh, r⟩
theorem cell_below {wa wb : World} {B : Nat} {a : Addr} {u : Value} (hb : Below B wa wb) (hB : wa.heap.size ≤ B) (h : wa.cell? a = some u) : wb.cell? a = some u :=
  (hb.cell (Nat.lt_of_lt_of_le (World.block_lt_of_cell? _ _ h) hB)).trans h
theorem own_base {w : World} {b b' : Nat} {e : TypeId} {size n : Nat} {v : Value} {xs : List Value} (h : w.ownsRow b e size v n xs) (hb : b' ≤ b) : w.ownsRow b' e size v n xs := by
  refine ⟨h.1, ?_⟩
  rcases h.2 with h2 | ⟨g, cap, cur, hv, hg, r⟩
  · exact .inl h2
  · exact .inr ⟨g, cap, cur, hv, by omega, r⟩

/-- The insertion's row as it is being laid: M its block. -/
structure Ins (wa wx : World) (n : Nat) (m : Nat) (X : List (Int × Int)) : Prop where
  own : wx.ownsRow wa.heap.size 45 2 (.slice (some ⟨wa.heap.size, 0, none⟩) m (n + 1)) m (flat X)
  bel : Below wa.heap.size wa wx

theorem ins_start {wa wx : World} {n : Nat} (h : wx.ownsRow wa.heap.size 45 2 (.slice (some ⟨wa.heap.size, 0, none⟩) 0 (n + 1)) 0 []) (hg : wa.grownBy wx none) : Ins wa wx n 0 [] :=
  ⟨h, (Below.refl _ _).grown hg (Nat.le_refl _) (fun k hk => by simp at hk)⟩
theorem ins_next {wa wx wy : World} {n m m' : Nat} {X Y : List (Int × Int)} (h : Ins wa wx n m X) (ho : wy.ownsRow wa.heap.size 45 2 (.slice (some ⟨wa.heap.size, 0, none⟩) (m + m') (n + 1)) (m + m') (flat X ++ flat Y))
    (hg : wx.grownBy wy (some wa.heap.size)) : Ins wa wy n (m + m') (X ++ Y) := by
  refine ⟨by rw [flat_append]; exact ho, h.bel.grown hg h.bel.size (fun k hk => by simp at hk; omega)⟩
theorem ins_alloc {wa wx : World} {n m : Nat} {X : List (Int × Int)} (h : Ins wa wx n m X) (o : Obj) : Ins wa (wx.alloc o) n m X :=
  ⟨h.own.alloc o, h.bel.alloc h.bel.size o⟩
theorem ins_len {wa wx : World} {n m m' : Nat} {X X' : List (Int × Int)} (h : Ins wa wx n m X) (e : m = m') (e2 : X = X') : Ins wa wx n m' X' := by
  subst e; subst e2; exact h

theorem ins_cell0 {wa wx : World} {n m : Nat} {X : List (Int × Int)} (h : Ins wa wx n m X) (hl : X.length = m) (i : Nat) (hi : i < m) : wx.cell? ⟨wa.heap.size, i * 2, none⟩ = some (.int .u64 (fi X i)) := by
  rw [h.own.cellAt (i * 2) (by omega)]; exact flat_get0 X i (by rw [hl]; exact hi)
theorem ins_cell1 {wa wx : World} {n m : Nat} {X : List (Int × Int)} (h : Ins wa wx n m X) (hl : X.length = m) (i : Nat) (hi : i < m) : wx.cell? ⟨wa.heap.size, i * 2 + 1, none⟩ = some (.int .u64 (la X i)) := by
  rw [h.own.cellAt (i * 2 + 1) (by omega)]; exact flat_get1 X i (by rw [hl]; exact hi)

/-- What the merging loop keeps. -/
structure Mrg (wi wr : World) (M : Nat) (F : List (Int × Int)) (m gw cw : Nat) (x : Int) : Prop where
  len : F.length = m + 1
  own : wr.ownsRow (M + 1) 45 2 (.slice (some ⟨gw, 0, none⟩) (m + 1) cw) (m + 1) (flat F)
  bel : Below (M + 1) wi wr
  last : la F m = x

/-- What 'want' is, however it came about. -/
structure Want (w wx : World) (L O : List (Int × Int)) (g cap n gw cw : Nat) : Prop where
  len : L.length = n
  hn : n ≤ 1048576
  own : wx.ownsRow w.heap.size 45 2 (.slice (some ⟨g, 0, none⟩) n cap) n (flat L)
  want : wx.ownsRow w.heap.size 45 2 (.slice (some ⟨gw, 0, none⟩) O.length cw) O.length (flat O)
  ne : g ≠ gw
  bel : Below w.heap.size w wx
  small : O.length ≤ 1048577
end Go.Proofs.Ybulkdqby
namespace Go.Proofs.Ybulkdqby
open Go.RowKit

theorem heap_two (w : World) (S S' : Obj) : ((w.alloc S).alloc S').heap[w.heap.size + 1]? = some S' := by
  have := heap_alloc_new (w.alloc S) S'
  rwa [World.size_alloc] at this

theorem mrg_first {wi W w1 : World} {M g' cap' : Nat} {I : List (Int × Int)} {row : Option Nat} (hb : Below (M + 1) wi W) (hM : M + 1 ≤ W.heap.size)
    (ho : w1.ownsRow (M + 1) 45 2 (.slice (some ⟨g', 0, none⟩) (0 + 1) cap') (0 + 1) ([] ++ flat [(fi I 0, la I 0)])) (hg : W.grownBy w1 row) (hr : row = none) (hI : 0 < I.length) : Mrg wi w1 M (foldTo I 1) 0 g' cap' (la I 0) := by
  subst hr
  have e : foldTo I 1 = [(fi I 0, la I 0)] := by rw [foldTo_succ I 0 hI, foldTo_zero, stepN_nil]
  rw [e]
  exact ⟨rfl, ho, hb.grown hg hM (fun k hk => by simp at hk), by simp [la]⟩

theorem mrg_push {wi wr W w1 : World} {M m gw cw g' cap' j : Nat} {I : List (Int × Int)} {x : Int} (h : Mrg wi wr M (foldTo I j) m gw cw x) (hj : j < I.length) (hne : ¬ x + 1 = fi I j)
    (hb : Below (M + 1) wi W) (hM : M + 1 ≤ W.heap.size)
    (ho : w1.ownsRow (M + 1) 45 2 (.slice (some ⟨g', 0, none⟩) (m + 1 + 1) cap') (m + 1 + 1) (flat (foldTo I j) ++ flat [(fi I j, la I j)])) (hg : W.grownBy w1 (some gw)) : Mrg wi w1 M (foldTo I (j + 1)) (m + 1) g' cap' (la I j) := by
  have hlast := h.last
  have e : foldTo I (j + 1) = foldTo I j ++ [(fi I j, la I j)] := by
    rw [foldTo_succ I j hj]
    exact stepN_push h.len _ (by rw [hlast]; exact hne)
  rw [e]
  refine ⟨by simp [h.len], by rw [flat_append]; exact ho, hb.grown hg hM (fun k hk => ?_), ?_⟩
  · have := (h.own.lt gw rfl).1
    simp at hk; omega
  · have hl := h.len
    have := (at_mid (foldTo I j) [] (fi I j, la I j)).2
    rw [hl] at this
    exact this

theorem mrg_merge {wi wr W : World} {M m gw cw j : Nat} {I : List (Int × Int)} {x : Int} (h : Mrg wi wr M (foldTo I j) m gw cw x) (hj : j < I.length) (he : x + 1 = fi I j)
    (hb : Below (M + 1) wi W) (ho : W.ownsRow (M + 1) 45 2 (.slice (some ⟨gw, 0, none⟩) (m + 1) cw) (m + 1) (flat (foldTo I j))) : Mrg wi (W.setCell ⟨gw, m * 2 + 1, none⟩ (.int .u64 (la I j))) M (foldTo I (j + 1)) m gw cw (la I j) := by
  have hlast := h.last
  have hl := h.len
  have e : foldTo I (j + 1) = (foldTo I j).set m (fi (foldTo I j) m, la I j) := by
    rw [foldTo_succ I j hj]
    exact stepN_merge hl _ (by rw [hlast]; exact he)
  rw [e]
  have hs := (ho.stored (m * 2 + 1) (.int .u64 (la I j))).1
  rw [flat_set1 _ m _ (by omega)] at hs
  refine ⟨by simpa using hl, hs, hb.setCell (by exact (h.own.lt gw rfl).1) _, ?_⟩
  simp [la, hl]

theorem want_made {w w3 w7 wr : World} {L I F : List (Int × Int)} {g cap h n m gw cw : Nat} {x : Int} (t : Two w w3 L g cap h n) (i : Ins w3 w7 n (n + 1) I) (r : Mrg w7 wr w3.heap.size F m gw cw x) (hm : m ≤ n) : Want w wr L F g cap n gw cw := by
  have b7 : Below w3.heap.size w3 wr := i.bel.trans (r.bel.mono (by omega))
  have hlt := (t.own.lt g rfl).2
  have hgw := (r.own.lt gw rfl).1
  have hl := r.len
  have hn := t.hn
  have hs := t.bel.size
  refine ⟨t.len, t.hn, own_below t.own b7 (fun g' hg' => by simp [Value.ownBlock] at hg'; omega), ?_, by omega, t.bel.trans (b7.mono hs), by omega⟩
  rw [hl]
  exact own_base r.own (by omega)

theorem pre_made {w wc : World} {L O : List (Int × Int)} {g cap n gw cw : Nat} (h : Want w wc L O g cap n gw cw) : Pre (wc.alloc (.cells #[.slice (some ⟨g, 0, none⟩) n cap] 42)) w.heap.size wc.heap.size g n cap L := by
  have hlt := (h.own.lt g rfl).2
  have hs := h.bel.size
  refine ⟨h.len, h.own.alloc _, ?_, ?_, by omega, by simp; omega⟩
  · rw [World.cell?_alloc_at _ _ _ _ rfl]; rfl
  · rw [World.frozen?_alloc_at _ _ _ _ rfl]

/-- What the last part of the law reads. -/
structure Last (w wq : World) (O : List (Int × Int)) (bn m g' cap' gw cw : Nat) : Prop where
  len : O.length = m
  own : wq.ownsRow w.heap.size 45 2 (.slice (some ⟨g', 0, none⟩) m cap') m (flat O)
  want : wq.ownsRow w.heap.size 45 2 (.slice (some ⟨gw, 0, none⟩) m cw) m (flat O)
  cn : wq.cell? ⟨bn, 0, none⟩ = some (.slice (some ⟨g', 0, none⟩) m cap')
  bel : Below w.heap.size w wq

theorem last_made {w wc wq : World} {L O : List (Int × Int)} {g cap n gw cw m g' cap' : Nat} {o : Obj} (h : Want w wc L O g cap n gw cw) (hm : m = O.length) (a : Added (wc.alloc o) wq w.heap.size wc.heap.size g O g' cap') : Last w wq O wc.heap.size m g' cap' gw cw := by
  subst hm
  have hg := h.own.lt g rfl
  have hw := h.want.lt gw rfl
  have hs := h.bel.size
  have ne := h.ne
  have hsz : (wc.alloc o).heap.size = wc.heap.size + 1 := World.size_alloc wc o
  have ak : ∀ b, b < wc.heap.size → b ≠ g → wq.heap[b]? = wc.heap[b]? := fun b hb hbg => (a.keep b (by omega) hbg (by omega)).trans (Below.heap_alloc wc o b hb)
  refine ⟨rfl, a.own, ?_, a.cn, ?_⟩
  · refine ⟨h.want.1, ?_⟩
    rcases h.want.2 with h2 | ⟨g2, c2, cur, hv, hgb, hh, r⟩
    · exact .inl h2
    · refine .inr ⟨g2, c2, cur, hv, hgb, ?_, r⟩
      have : gw = g2 := by
        simp only [Value.slice.injEq, Option.some.injEq, Addr.mk.injEq] at hv
        exact hv.1.1
      subst this
      rw [ak gw hw.2 (fun e => ne e.symm)]
      exact hh
  · refine h.bel.trans ⟨a.os, a.tape, a.output, by have := a.size; omega, fun b hb => ak b (by omega) (by omega)⟩
theorem Last.cells {w wq : World} {O : List (Int × Int)} {bn m g' cap' gw cw : Nat} (h : Last w wq O bn m g' cap' gw cw) (j : Nat) (hj : j < m) :
    wq.cell? ⟨g', j * 2, none⟩ = some (.int .u64 (fi O j)) ∧ wq.cell? ⟨g', j * 2 + 1, none⟩ = some (.int .u64 (la O j)) ∧ wq.cell? ⟨gw, j * 2, none⟩ = some (.int .u64 (fi O j)) ∧ wq.cell? ⟨gw, j * 2 + 1, none⟩ = some (.int .u64 (la O j)) := by
  have hl := h.len
  refine ⟨?_, ?_, ?_, ?_⟩
  · rw [h.own.cellAt _ (by omega)]; exact flat_get0 O j (by omega)
  · rw [h.own.cellAt _ (by omega)]; exact flat_get1 O j (by omega)
  · rw [h.want.cellAt _ (by omega)]; exact flat_get0 O j (by omega)
  · rw [h.want.cellAt _ (by omega)]; exact flat_get1 O j (by omega)
end Go.Proofs.Ybulkdqby

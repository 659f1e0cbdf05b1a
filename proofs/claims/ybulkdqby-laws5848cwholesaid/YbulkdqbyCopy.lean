import Derived.Test.YbulkdqbyAddAll
import Derived.Test.YbulkdqbyBuild
namespace Go
section
variable {P : Program} {w : World}
/-- copy of a whole row of the call's own onto another of the same length, whatever the element's cells. -/
theorem run_copy_rows_y (t ty e : TypeId) (i : TypeInfo) (size : Nat) (hu : P.underlying t = some (.slice e)) (hi : P.info? e = some i) (hsize : i.size = size)
    {b b' h g n cap : Nat} {zs xs : List Value} (hd : w.ownsRow b e size (.slice (some ⟨h, 0, none⟩) n n) n zs) (hs : w.ownsRow b' e size (.slice (some ⟨g, 0, none⟩) n cap) n xs) (h1 : ∀ u ∈ xs, u.oneCell' = true) :
    ∃ w', (Builtin.copy_ #[t, t] ty #[.slice (some ⟨h, 0, none⟩) n n, .slice (some ⟨g, 0, none⟩) n cap]).run P w = .ok (goInt n) w' ∧ w'.ownsRow b e size (.slice (some ⟨h, 0, none⟩) n n) n xs ∧ w.grownBy w' (some h) := by
  subst hsize
  rcases hd.2 with ⟨h', _⟩ | ⟨h', n', cur, hv, hb, hg, _, hm, hcs, _⟩
  · simp at h'
  · simp only [Value.slice.injEq, Option.some.injEq, Addr.mk.injEq, and_true, true_and] at hv
    obtain ⟨rfl, rfl⟩ := hv
    have hx := hs.1
    have hf := run_firstCells_some (P := P) w i.size n ⟨g, 0, none⟩ n cap xs hx (hs.cells (g := g) rfl)
    have hst := run_storeCells_at P h 0 e xs 0 cur w hg (by simp only [Nat.zero_add]; omega) h1
    simp only [Nat.add_zero, Nat.zero_add, List.take_zero, List.nil_append] at hst
    have hdrop : cur.toList.drop xs.length = [] := List.drop_eq_nil_of_le (by rw [Array.length_toList]; omega)
    rw [hdrop, List.append_nil] at hst
    refine ⟨w.setRow h xs.toArray, ?_, ⟨hx, .inr ⟨h, n, xs.toArray, rfl, hb, setRow_heap w h cur _ e _ hg, Nat.le_refl _, hm, by simpa using hx, ?_⟩⟩, ⟨rfl, rfl, rfl, by simp, fun k _ hk => setRow_other w h k _ (fun e => hk (by simp [e]))⟩⟩
    · simp [Builtin.copy_, run_underlying hu, Builtin.lenOf, sizeOf, typeInfo, hi, hf, hst]
    · exact List.take_of_length_le (by simp [hx])

theorem wpList_copy_rows_y {ops : Array Oper} {rest : List Oper} {o : Oper} {a : Act} {Q : Exit → Act → World → Prop} (hgd : o.guard = none) (d s : Operand) (t : TypeId)
    (ho : o.op = .call { callee := .builtin .copy, args := #[d, s], argTypes := #[t, t] })
    (e : TypeId) (i : TypeInfo) (size : Nat) (hu : P.underlying t = some (.slice e)) (hi : P.info? e = some i) (hsize : i.size = size)
    {b b' h g n cap : Nat} {zs xs : List Value} (hed : a.eval d = .slice (some ⟨h, 0, none⟩) n n) (hes : a.eval s = .slice (some ⟨g, 0, none⟩) n cap)
    (hd : w.ownsRow b e size (.slice (some ⟨h, 0, none⟩) n n) n zs) (hs : w.ownsRow b' e size (.slice (some ⟨g, 0, none⟩) n cap) n xs) (h1 : ∀ u ∈ xs, u.oneCell' = true)
    (hK : ∀ w', w'.ownsRow b e size (.slice (some ⟨h, 0, none⟩) n n) n xs → w.grownBy w' (some h) → wpList P ops Q rest (a.put o.dst (goInt n)) w') : wpList P ops Q (o :: rest) a w := by
  refine wpList_plain hgd fun K hK' => ?_
  obtain ⟨w', hrun, h2, h3⟩ := run_copy_rows_y (P := P) t o.type e i size hu hi hsize hd hs h1
  unfold Oper.wp execOp
  simp only [ho, resolve, invoke, builtin, Sem.run_bind, Sem.run_pure, Result.andThen_ok, List.map_toArray, List.map_cons, List.map_nil, hed, hes, hrun]
  exact hK' _ _ (hK w' h2 h3)
end
end Go
namespace Go.Proofs.Ybulkdqby
open Go.RowKit

/-- The set and its copy, laid. -/
structure Two (w wx : World) (L : List (Int × Int)) (g cap h n : Nat) : Prop where
  len : L.length = n
  hn : n ≤ 1048576
  wf : WF L
  own : wx.ownsRow w.heap.size 45 2 (.slice (some ⟨g, 0, none⟩) n cap) n (flat L)
  cop : wx.ownsRow w.heap.size 45 2 (.slice (some ⟨h, 0, none⟩) n n) n (flat L)
  ne : g ≠ h
  bel : Below w.heap.size w wx

theorem two_made {w w1 w2 w3 : World} {L : List (Int × Int)} {g cap n : Nat} (hb : Behind w w1 L g cap) (hn : L.length ≤ 1048576) (hl : L.length = n)
    (hg2 : w1.grownBy w2 none) (hc : w3.ownsRow w.heap.size 45 2 (.slice (some ⟨w1.heap.size, 0, none⟩) n n) n (flat L)) (hg3 : w2.grownBy w3 (some w1.heap.size)) : Two w w3 L g cap w1.heap.size n := by
  subst hl
  have hlt := (hb.own.lt g rfl)
  have hne : g ≠ w1.heap.size := by omega
  have hs1 := hb.bel.size
  have hs2 := hg2.size
  refine ⟨rfl, hn, hb.wf, ?_, hc, hne, ?_⟩
  · refine (hb.own.kept hg2 (.inr (by simp [Value.ownBlock]))).kept hg3 (.inr ?_)
    simpa [Value.ownBlock] using hne
  · refine (hb.bel.grown hg2 hs1 (fun k hk => by simp at hk)).grown hg3 (by omega) fun k hk => ?_
    simp at hk; omega

theorem Two.o0 {w wx : World} {L : List (Int × Int)} {g cap h n : Nat} (t : Two w wx L g cap h n) (i : Nat) (hi : i < n) : wx.cell? ⟨h, i * 2, none⟩ = some (.int .u64 (fi L i)) := by
  rw [t.cop.cellAt (i * 2) (by omega)]; exact flat_get0 L i (by rw [t.len]; exact hi)
theorem Two.o1 {w wx : World} {L : List (Int × Int)} {g cap h n : Nat} (t : Two w wx L g cap h n) (i : Nat) (hi : i < n) : wx.cell? ⟨h, i * 2 + 1, none⟩ = some (.int .u64 (la L i)) := by
  rw [t.cop.cellAt (i * 2 + 1) (by omega)]; exact flat_get1 L i (by rw [t.len]; exact hi)

theorem wasTo_hit {L : List (Int × Int)} {k : Int} {j : Nat} (h1 : decide (fi L j ≤ k) = true) (h2 : decide (k ≤ la L j) = true) : wasTo L k (j + 1) = true := by
  simp only [wasTo, h1, h2, Bool.and_self, Bool.or_true]
theorem wasTo_miss {L : List (Int × Int)} {k : Int} {j : Nat} (h : decide (fi L j ≤ k) = false ∨ decide (k ≤ la L j) = false) : wasTo L k (j + 1) = wasTo L k j := by
  rcases h with h | h
  · simp only [wasTo, h, Bool.false_and, Bool.or_false]
  · simp only [wasTo, h, Bool.and_false, Bool.or_false]
theorem posTo_start (L : List (Int × Int)) (k : Int) : PosTo L k 0 L.length := .inl ⟨rfl, fun _ hi => absurd hi (Nat.not_lt_zero _)⟩
theorem posTo_keep {L : List (Int × Int)} {k : Int} {j pos : Nat} (h : PosTo L k j pos) (hf : fi L j ≤ k ∨ pos ≠ L.length) : PosTo L k (j + 1) pos := by
  rcases h with ⟨h1, h2⟩ | h
  · rcases hf with hf | hf
    · refine .inl ⟨h1, fun i hi => ?_⟩
      by_cases e : i = j
      · subst e; exact hf
      · exact h2 i (by omega)
    · exact absurd h1 hf
  · exact .inr h
theorem posTo_hit {L : List (Int × Int)} {k : Int} {j : Nat} (h : PosTo L k j L.length) (hj : j < L.length) (hf : k < fi L j) : PosTo L k (j + 1) j := by
  rcases h with ⟨_, h2⟩ | ⟨h1, _⟩
  · exact .inr ⟨hj, hf, h2⟩
  · omega
theorem posTo_le {L : List (Int × Int)} {k : Int} {j pos : Nat} (h : PosTo L k j pos) : pos ≤ L.length := by
  rcases h with ⟨h, _⟩ | ⟨h, _⟩ <;> omega
end Go.Proofs.Ybulkdqby

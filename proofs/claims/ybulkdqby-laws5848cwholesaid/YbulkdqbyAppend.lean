import Derived.Test.YbulkdqbyMid
namespace Go
section
variable {P : Program} (w : World)
/-- append onto a row of the call's own, something or nothing, the new value not empty: the value written out. -/
theorem run_append_any_y (t ty : TypeId) (base : Nat) (e : TypeId) (i : TypeInfo) (z : Value) (size bytes : Nat) (ht : P.underlying t = some (.slice e)) (hi : P.info? e = some i) (hz : i.zero = some z)
    (hsize : i.size = size) (hby : i.bytes = bytes) (hzs : z.cells.size = size) (hsz : 0 < size)
    (v : Value) (n : Nat) (xs : List Value) (hown : w.ownsRow base e size v n xs)
    (ad : Addr) (m c : Nat) (news : List Value) (hl : news.length = m * size) (hnews : ∀ j u, news[j]? = some u → w.cell? (ad.add j) = some u) (h1 : ∀ u ∈ news, u.oneCell' = true)
    (hm : 0 < n + m) (h63 : n + m ≤ maxLen) (hbytes : (n + m) * bytes ≤ 140737488355328) (hbase : base ≤ w.heap.size) :
    ∃ g cap w', (Builtin.append_ #[t, t] ty #[v, .slice (some ad) m c]).run P w = .ok (.slice (some ⟨g, 0, none⟩) (n + m) cap) w' ∧
      w'.ownsRow base e size (.slice (some ⟨g, 0, none⟩) (n + m) cap) (n + m) (xs ++ news) ∧ w.grownBy w' v.ownBlock ∧ (v.ownBlock = some g ∨ g = w.heap.size) ∧ g < w'.heap.size := by
  obtain ⟨v', w', hr, h2, h3, _, h5⟩ := run_append_own_at (P := P) w base t ty e i z size bytes ht hi hz hsize hby hzs hsz v n xs hown ad m c news hl hnews h1 h63 hbytes hbase
  obtain ⟨g, cap, rfl, _, hlt⟩ := h2.form (by omega)
  refine ⟨g, cap, w', hr, h2, h3, ?_, hlt⟩
  rcases h5 with h5 | h5
  · exact .inl (by rw [← h5]; rfl)
  · right
    simpa [Value.ownBlock] using h5
/-- At the operation. -/
theorem wp_append_any_y {o : Oper} {a : Act} {K : Act → World → Prop} {Q : Exit → Act → World → Prop} (s x : Operand) (t : TypeId)
    (ho : o.op = .call { callee := .builtin .append, args := #[s, x], argTypes := #[t, t] })
    (base : Nat) (e : TypeId) (i : TypeInfo) (z : Value) (size bytes : Nat) (ht : P.underlying t = some (.slice e)) (hi : P.info? e = some i) (hz : i.zero = some z)
    (hsize : i.size = size) (hby : i.bytes = bytes) (hzs : z.cells.size = size) (hsz : 0 < size)
    (v : Value) (n : Nat) (xs : List Value) (hs : a.eval s = v) (hown : w.ownsRow base e size v n xs)
    (ad : Addr) (m c : Nat) (news : List Value) (hx : a.eval x = .slice (some ad) m c) (hl : news.length = m * size) (hnews : ∀ j u, news[j]? = some u → w.cell? (ad.add j) = some u) (h1 : ∀ u ∈ news, u.oneCell' = true)
    (hm : 0 < n + m) (h63 : n + m ≤ maxLen) (hbytes : (n + m) * bytes ≤ 140737488355328) (hbase : base ≤ w.heap.size)
    (h : ∀ g cap w', w'.ownsRow base e size (.slice (some ⟨g, 0, none⟩) (n + m) cap) (n + m) (xs ++ news) → w.grownBy w' v.ownBlock → (v.ownBlock = some g ∨ g = w.heap.size) → g < w'.heap.size → K (a.put o.dst (.slice (some ⟨g, 0, none⟩) (n + m) cap)) w') : o.wp P a w K Q := by
  obtain ⟨g, cap, w', hr, h2, h3, h4, h5⟩ := run_append_any_y (P := P) w t o.type base e i z size bytes ht hi hz hsize hby hzs hsz v n xs hown ad m c news hl hnews h1 hm h63 hbytes hbase
  unfold Oper.wp execOp
  simp only [ho, resolve, invoke, builtin, Sem.run_bind, Sem.run_pure, Result.andThen_ok, List.map_toArray, List.map_cons, List.map_nil, hs, hx, hr]
  exact h g cap w' h2 h3 h4 h5
/-- At a plain region's list. -/
theorem wpList_append_any_y {ops : Array Oper} {rest : List Oper} {o : Oper} {a : Act} {Q : Exit → Act → World → Prop} (hgd : o.guard = none) (s x : Operand) (t : TypeId)
    (ho : o.op = .call { callee := .builtin .append, args := #[s, x], argTypes := #[t, t] })
    (base : Nat) (e : TypeId) (i : TypeInfo) (z : Value) (size bytes : Nat) (ht : P.underlying t = some (.slice e)) (hi : P.info? e = some i) (hz : i.zero = some z)
    (hsize : i.size = size) (hby : i.bytes = bytes) (hzs : z.cells.size = size) (hsz : 0 < size)
    (v : Value) (n : Nat) (xs : List Value) (hs : a.eval s = v) (hown : w.ownsRow base e size v n xs)
    (ad : Addr) (m c : Nat) (news : List Value) (hx : a.eval x = .slice (some ad) m c) (hl : news.length = m * size) (hnews : ∀ j u, news[j]? = some u → w.cell? (ad.add j) = some u) (h1 : ∀ u ∈ news, u.oneCell' = true)
    (hm : 0 < n + m) (h63 : n + m ≤ maxLen) (hbytes : (n + m) * bytes ≤ 140737488355328) (hbase : base ≤ w.heap.size)
    (h : ∀ g cap w', w'.ownsRow base e size (.slice (some ⟨g, 0, none⟩) (n + m) cap) (n + m) (xs ++ news) → w.grownBy w' v.ownBlock → (v.ownBlock = some g ∨ g = w.heap.size) → g < w'.heap.size → wpList P ops Q rest (a.put o.dst (.slice (some ⟨g, 0, none⟩) (n + m) cap)) w') : wpList P ops Q (o :: rest) a w :=
  wpList_plain hgd fun _ hK => wp_append_any_y w s x t ho base e i z size bytes ht hi hz hsize hby hzs hsz v n xs hs hown ad m c news hx hl hnews h1 hm h63 hbytes hbase fun g cap w' h2 h3 h4 h5 => hK _ _ (h g cap w' h2 h3 h4 h5)
/-- At a step of a region that draws. -/
theorem step_append_any_y {ops : Array Oper} {o : Oper} {a : Act} {K : Act → World → Prop} {Q : Exit → Act → World → Prop} {E : Prop} (hgd : o.guard = none) (s x : Operand) (t : TypeId)
    (ho : o.op = .call { callee := .builtin .append, args := #[s, x], argTypes := #[t, t] })
    (base : Nat) (e : TypeId) (i : TypeInfo) (z : Value) (size bytes : Nat) (ht : P.underlying t = some (.slice e)) (hi : P.info? e = some i) (hz : i.zero = some z)
    (hsize : i.size = size) (hby : i.bytes = bytes) (hzs : z.cells.size = size) (hsz : 0 < size)
    (v : Value) (n : Nat) (xs : List Value) (hs : a.eval s = v) (hown : w.ownsRow base e size v n xs)
    (ad : Addr) (m c : Nat) (news : List Value) (hx : a.eval x = .slice (some ad) m c) (hl : news.length = m * size) (hnews : ∀ j u, news[j]? = some u → w.cell? (ad.add j) = some u) (h1 : ∀ u ∈ news, u.oneCell' = true)
    (hm : 0 < n + m) (h63 : n + m ≤ maxLen) (hbytes : (n + m) * bytes ≤ 140737488355328) (hbase : base ≤ w.heap.size)
    (h : ∀ g cap w', w'.ownsRow base e size (.slice (some ⟨g, 0, none⟩) (n + m) cap) (n + m) (xs ++ news) → w.grownBy w' v.ownBlock → (v.ownBlock = some g ∨ g = w.heap.size) → g < w'.heap.size → K (a.put o.dst (.slice (some ⟨g, 0, none⟩) (n + m) cap)) w') :
    if Region.wanted o (yielded ops a.tmps) = true then Oper.wp P o a w K Q else E := by
  have hw : Region.wanted o (yielded ops a.tmps) = true := by simp [Region.wanted, hgd]
  rw [if_pos hw]
  exact wp_append_any_y w s x t ho base e i z size bytes ht hi hz hsize hby hzs hsz v n xs hs hown ad m c news hx hl hnews h1 hm h63 hbytes hbase h
end
end Go
namespace Go.Proofs.Ybulkdqby
open Go.RowKit

theorem info45y : (Yba.prog.info? 45).map (fun i => (i.zero, i.size, i.bytes)) = some (some (.agg #[.int .u64 0, .int .u64 0]), 2, 16) := by kernel_rfl

/-- The first i of a row's elements. -/
theorem own_take {w : World} {base g n cap i : Nat} {L : List (Int × Int)} (h : w.ownsRow base 45 2 (.slice (some ⟨g, 0, none⟩) n cap) n (flat L)) (hl : L.length = n) (hi : i ≤ n) :
    w.ownsRow base 45 2 (.slice (some ⟨g, 0, none⟩) i cap) i (flat (L.take i)) := by
  refine ⟨by rw [flat_length, List.length_take]; congr 1; omega, ?_⟩
  rcases h.2 with ⟨h', _⟩ | ⟨g', cap', cur, h', hb, hg, hnc, hcm, hcs, htake⟩
  · simp at h'
  · simp only [Value.slice.injEq, Option.some.injEq, Addr.mk.injEq, and_true, true_and] at h'
    obtain ⟨rfl, rfl⟩ := h'
    refine .inr ⟨g, cap, cur, rfl, hb, hg, by omega, hcm, hcs, ?_⟩
    rw [flat_take, ← htake, List.take_take]
    congr 1
    omega

/-- Where 's[i:]' begins, and that its cells lie there. -/
theorem news_drop {w : World} {base g n cap i : Nat} {L : List (Int × Int)} (h : w.ownsRow base 45 2 (.slice (some ⟨g, 0, none⟩) n cap) n (flat L)) (hi : i ≤ n) :
    ∃ AD : Addr, (if cap = i then some (⟨g, 0, none⟩ : Addr) else some ⟨g, i * 2, none⟩) = some AD ∧ ∀ j u, (flat (L.drop i))[j]? = some u → w.cell? (AD.add j) = some u := by
  have hnc : n ≤ cap := by
    rcases h.2 with ⟨h', _⟩ | ⟨g', cap', cur, h', _, _, hnc, _⟩
    · simp at h'
    · simp only [Value.slice.injEq, Option.some.injEq, Addr.mk.injEq, and_true, true_and] at h'
      obtain ⟨_, rfl⟩ := h'; exact hnc
  have hlen := h.1
  by_cases e : cap = i
  · refine ⟨⟨g, 0, none⟩, by rw [if_pos e], fun j u hu => ?_⟩
    rw [flat_drop, List.drop_eq_nil_of_le (by omega)] at hu
    simp at hu
  · refine ⟨⟨g, i * 2, none⟩, by rw [if_neg e], fun j u hu => ?_⟩
    rw [flat_drop, List.getElem?_drop] at hu
    have hlt : i * 2 + j < n * 2 := by
      rw [← hlen]
      exact (List.getElem?_eq_some_iff.1 hu).1
    have hadd : (⟨g, i * 2, none⟩ : Addr).add j = ⟨g, i * 2 + j, none⟩ := by unfold Addr.add; split <;> simp_all
    rw [hadd, h.cellAt (i * 2 + j) hlt]
    exact hu

theorem own_cap {w : World} {base g n cap : Nat} {xs : List Value} (h : w.ownsRow base 45 2 (.slice (some ⟨g, 0, none⟩) n cap) n xs) : n ≤ cap := by
  rcases h.2 with ⟨h', _⟩ | ⟨g', cap', cur, h', _, _, hnc, _⟩
  · simp at h'
  · simp only [Value.slice.injEq, Option.some.injEq, Addr.mk.injEq, and_true, true_and] at h'
    obtain ⟨_, rfl⟩ := h'; exact hnc
end Go.Proofs.Ybulkdqby
namespace Go.Proofs.Ybulkdqby
open Go.RowKit

theorem cell_far_block {W : World} (g j b o : Nat) (v : Value) (h : b ≠ g) : (W.setCell ⟨g, j, none⟩ v).cell? ⟨b, o, none⟩ = W.cell? ⟨b, o, none⟩ := World.cell?_of_block (Below.heap_setCell W ⟨g, j, none⟩ v b h)
theorem cell_far_off {W : World} (g j o : Nat) (v : Value) (h : o ≠ j) : (W.setCell ⟨g, j, none⟩ v).cell? ⟨g, o, none⟩ = W.cell? ⟨g, o, none⟩ := by
  simp only [World.cell?, World.setCell, Array.getElem?_modify]
  cases hg : W.heap[g]? with
  | none => simp
  | some ob =>
    cases ob <;> simp [Ne.symm h]

/-- Nothing below H but block g has turned. -/
structure Far (H g : Nat) (a b : World) : Prop where
  size : a.heap.size ≤ b.heap.size
  os : b.os = a.os
  tape : b.tape = a.tape
  output : b.output = a.output
  keep : ∀ k, k < H → k ≠ g → b.heap[k]? = a.heap[k]?

theorem Far.refl (H g : Nat) (a : World) : Far H g a a := ⟨Nat.le_refl _, rfl, rfl, rfl, fun _ _ _ => rfl⟩
theorem Far.drew {H g : Nat} {a b : World} (h : Far H g a b) : Far H g a b.drew := ⟨h.size, h.os, h.tape, h.output, h.keep⟩
theorem Far.drewN {H g : Nat} {a b : World} (h : Far H g a b) (q : Nat) : Far H g a (b.drewN q) := ⟨h.size, h.os, h.tape, h.output, h.keep⟩
theorem Far.alloc {H g : Nat} {a b : World} (h : Far H g a b) (hH : H ≤ b.heap.size) (o : Obj) : Far H g a (b.alloc o) :=
  ⟨Nat.le_trans h.size (by simp), h.os, h.tape, h.output, fun k hk hg => (Below.heap_alloc b o k (by omega)).trans (h.keep k hk hg)⟩
theorem Far.grown {H g : Nat} {a b c : World} {row : Option Nat} (h : Far H g a b) (hg : b.grownBy c row) (hH : H ≤ b.heap.size) (hr : row = some g ∨ ∀ k, row = some k → H ≤ k) : Far H g a c :=
  ⟨Nat.le_trans h.size hg.size, hg.os.trans h.os, hg.tape.trans h.tape, hg.output.trans h.output, fun k hk hkg => (hg.block k (by omega) (fun e => by
    rcases hr with hr | hr
    · rw [hr] at e; exact hkg (Option.some.inj e)
    · have := hr k e.symm; omega)).trans (h.keep k hk hkg)⟩

/-- The way of 'add' that ends in '*n = append(..)'. -/
theorem added_store {w wf w1 : World} {base bn g n cap : Nat} {k : Int} {L L' : List (Int × Int)} {g' cap' N : Nat} {xs : List Value} (h : Mid w wf base bn g n cap k L) (hf : Far w.heap.size g wf w1)
    (hown : w1.ownsRow base 45 2 (.slice (some ⟨g', 0, none⟩) N cap') N xs) (hat : g' = g ∨ w.heap.size ≤ g') (hl : L'.length = N) (hx : xs = flat L') :
    Added w (w1.setCell ⟨bn, 0, none⟩ (.slice (some ⟨g', 0, none⟩) N cap')) base bn g L' g' cap' := by
  subst hl
  subst hx
  have lb := h.lb
  have ne := h.ne
  have hne : g' ≠ bn := by omega
  have hlt : bn < w1.heap.size := by have := hf.size; have := h.size; omega
  have hcb : ∃ v, w1.cell? ⟨bn, 0, none⟩ = some v := ⟨_, (World.cell?_of_block (hf.keep bn lb ne)).trans h.cn⟩
  refine ⟨?_, ?_, ?_, hf.os.trans h.os, hf.tape.trans h.tape, hf.output.trans h.output, ?_⟩
  · refine hown.kept (row := some bn) ⟨rfl, rfl, rfl, by simp [World.setCell], fun k _ hk => Below.heap_setCell w1 ⟨bn, 0, none⟩ _ k (fun e => hk (by rw [e]))⟩ (.inr ?_)
    simpa [Value.ownBlock] using hne
  · obtain ⟨v, hv⟩ := hcb
    exact World.cell?_setCell_same w1 ⟨bn, 0, none⟩ _ hv
  · have := hf.size; have := h.size; simp [World.setCell]; omega
  · intro b hb hbg hbn
    rw [Below.heap_setCell w1 ⟨bn, 0, none⟩ _ b hbn, hf.keep b hb hbg]
    exact h.keep b hb hbg

/-! Behind the inner append of 'append(s[:i], append(numbers{{k, k}}, s[i:]...)...)'. -/
section
variable {w wd w1 : World} {g q : Nat} {O : Obj}
theorem new_far (hsz : w.heap.size + 2 ≤ wd.heap.size) (hg : ((wd.drewN q).alloc O).grownBy w1 (Value.slice (some ⟨wd.heap.size, 0, none⟩) 1 1).ownBlock) : Far w.heap.size g wd w1 :=
  (((Far.refl _ _ wd).drewN q).alloc (by show _ ≤ wd.heap.size; omega) O).grown hg (by rw [World.size_alloc]; show _ ≤ wd.heap.size + 1; omega) (.inr fun k hk => by
    have : wd.heap.size = k := by simpa [Value.ownBlock] using hk
    omega)
theorem new_cell {b : Nat} (hb : b < wd.heap.size) (hg : ((wd.drewN q).alloc O).grownBy w1 (Value.slice (some ⟨wd.heap.size, 0, none⟩) 1 1).ownBlock) : w1.cell? ⟨b, 0, none⟩ = wd.cell? ⟨b, 0, none⟩ := by
  rw [hg.cell_far ⟨b, 0, none⟩ (by rw [World.size_alloc]; show b < wd.heap.size + 1; omega) (by show ¬ (some b = some wd.heap.size); simp only [Option.some.injEq]; omega)]
  exact World.cell?_alloc_past (w := wd.drewN q) O b 0 hb
theorem new_kept {base c cap : Nat} {xs : List Value} (hsz : w.heap.size + 2 ≤ wd.heap.size) (lg : g < w.heap.size) (h : (wd.alloc O).ownsRow base 45 2 (.slice (some ⟨g, 0, none⟩) c cap) c xs)
    (hg : ((wd.drewN q).alloc O).grownBy w1 (Value.slice (some ⟨wd.heap.size, 0, none⟩) 1 1).ownBlock) : w1.ownsRow base 45 2 (.slice (some ⟨g, 0, none⟩) c cap) c xs := by
  have h' : ((wd.drewN q).alloc O).ownsRow base 45 2 (.slice (some ⟨g, 0, none⟩) c cap) c xs := h
  refine h'.kept hg (.inr ?_)
  show ¬ (some g = some wd.heap.size)
  simp only [Option.some.injEq]
  omega
end
end Go.Proofs.Ybulkdqby

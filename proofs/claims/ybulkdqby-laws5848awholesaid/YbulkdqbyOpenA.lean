import Derived.Test.YbulkdqbyRows
import Derived.ProofKit
import Derived.OpenShut
namespace Go.Proofs.Ybulkdqby
open Go.ChangeShapes Go.WideShapes Go.ChangeAt Go.RowKit

theorem cells25 : Yba.prog.cellsOf 25 = 15 := by kernel_rfl
theorem cells22 : Yba.prog.cellsOf 22 = 1 := by kernel_rfl
theorem cells2 : Yba.prog.cellsOf 2 = 1 := by kernel_rfl
theorem cells4 : Yba.prog.cellsOf 4 = 1 := by kernel_rfl
theorem cells3 : Yba.prog.cellsOf 3 = 1 := by kernel_rfl
theorem cells23 : Yba.prog.cellsOf 23 = 1 := by kernel_rfl

theorem array15 {cs : Array Value} (h : cs.size = 15) : ∃ a b c d e f g i j k l m n o p, cs = #[a, b, c, d, e, f, g, i, j, k, l, m, n, o, p] := by
  obtain ⟨l⟩ := cs
  match l, h with
  | [a, b, c, d, e, f, g, i, j, k, l, m, n, o, p], _ => exact ⟨a, b, c, d, e, f, g, i, j, k, l, m, n, o, p, rfl⟩

section
variable {H : Type} {enc : TypeId × Value → H} {W : World} {b0 : Nat} {spare : Nat → Bool} {held : Bool} {n : Nat} {c : Value}
theorem fld_int {t : TypeId} {k : IntKind} {xs : List (DataW H × List MemPlace)} {i : Nat} (hu : Yba.prog.underlying t = some (.int k)) (h : DataW.trod enc Yba.prog W b0 spare held n t [c] = xs[i]?) (hi : i < xs.length) : ∃ a, c = .int k a ∧ (Lit.int k a).wf = true := by
  rw [List.getElem?_eq_getElem hi] at h
  obtain ⟨a, h1, _, h3⟩ := DataW.trod_int hu h
  exact ⟨a, by simpa using h1, h3⟩
theorem fld_bool {t : TypeId} {xs : List (DataW H × List MemPlace)} {i : Nat} (hu : Yba.prog.underlying t = some .bool) (h : DataW.trod enc Yba.prog W b0 spare held n t [c] = xs[i]?) (hi : i < xs.length) : ∃ a, c = .bool a := by
  rw [List.getElem?_eq_getElem hi] at h
  obtain ⟨a, h1, _⟩ := DataW.trod_bool hu h
  exact ⟨a, by simpa using h1⟩
end

set_option maxRecDepth 100000 in
theorem open15 {H : Type} {enc : TypeId × Value → H} {W : World} {r : Reach} {base b0 : Nat} {spare : Nat → Bool} {held : Bool} {v : Value} {d : DataW H} {p : List MemPlace} (hv : Value.okWide Yba.prog W r base 25 v) (h : DataW.Trod enc Yba.prog W b0 spare held 25 v d p) :
    ∃ (pe tm fl dl pl lr ln ha ti ss lt : Int) (sf su lo he : Bool), v = .agg #[.int .u32 pe, .int .i64 tm, .int .i64 fl, .bool sf, .int .i64 dl, .bool su, .int .i64 pl, .int .u64 lr, .int .u64 ln, .int .i64 ha, .int .i64 ti, .bool lo, .int .i64 ss, .int .i64 lt, .bool he] ∧
      (Lit.int .i64 dl).wf = true ∧ (Lit.int .i64 ha).wf = true ∧ (Lit.int .i64 ss).wf = true ∧ (Lit.int .i64 lt).wf = true := by
  obtain ⟨cs, rfl, hsz⟩ := okWide_struct Yba.underlying25 hv
  obtain ⟨c0, c1, c2, c3, c4, c5, c6, c7, c8, c9, c10, c11, c12, c13, c14, rfl⟩ := array15 (hsz.trans cells25)
  obtain ⟨fuel, hf⟩ := h
  obtain ⟨xs, n, _, _, _, hxl, hfld⟩ := DataW.trod_struct Yba.underlying25 hf
  have hl : xs.length = 15 := hxl
  have e0 := hfld 0 _ rfl
  have e1 := hfld 1 _ rfl
  have e2 := hfld 2 _ rfl
  have e3 := hfld 3 _ rfl
  have e4 := hfld 4 _ rfl
  have e5 := hfld 5 _ rfl
  have e6 := hfld 6 _ rfl
  have e7 := hfld 7 _ rfl
  have e8 := hfld 8 _ rfl
  have e9 := hfld 9 _ rfl
  have e10 := hfld 10 _ rfl
  have e11 := hfld 11 _ rfl
  have e12 := hfld 12 _ rfl
  have e13 := hfld 13 _ rfl
  have e14 := hfld 14 _ rfl
  clear hfld
  simp only [Value.cells] at e0 e1 e2 e3 e4 e5 e6 e7 e8 e9 e10 e11 e12 e13 e14
  obtain ⟨pe, rfl, _⟩ := fld_int Yba.underlying22 e0 (by omega)
  obtain ⟨tm, rfl, _⟩ := fld_int Yba.underlying2 e1 (by omega)
  obtain ⟨fl, rfl, _⟩ := fld_int Yba.underlying2 e2 (by omega)
  obtain ⟨sf, rfl⟩ := fld_bool Yba.underlying4 e3 (by omega)
  obtain ⟨dl, rfl, w4⟩ := fld_int Yba.underlying2 e4 (by omega)
  obtain ⟨su, rfl⟩ := fld_bool Yba.underlying4 e5 (by omega)
  obtain ⟨pl, rfl, _⟩ := fld_int Yba.underlying3 e6 (by omega)
  obtain ⟨lr, rfl, _⟩ := fld_int Yba.underlying23 e7 (by omega)
  obtain ⟨ln, rfl, _⟩ := fld_int Yba.underlying23 e8 (by omega)
  obtain ⟨ha, rfl, w9⟩ := fld_int Yba.underlying2 e9 (by omega)
  obtain ⟨ti, rfl, _⟩ := fld_int Yba.underlying3 e10 (by omega)
  obtain ⟨lo, rfl⟩ := fld_bool Yba.underlying4 e11 (by omega)
  obtain ⟨ss, rfl, w12⟩ := fld_int Yba.underlying2 e12 (by omega)
  obtain ⟨lt, rfl, w13⟩ := fld_int Yba.underlying2 e13 (by omega)
  obtain ⟨he, rfl⟩ := fld_bool Yba.underlying4 e14 (by omega)
  exact ⟨pe, tm, fl, dl, pl, lr, ln, ha, ti, ss, lt, sf, su, lo, he, rfl, w4, w9, w12, w13⟩
end Go.Proofs.Ybulkdqby

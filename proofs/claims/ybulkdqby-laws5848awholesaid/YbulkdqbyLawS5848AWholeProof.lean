/-
  THE SHELL OF A PROOF OF 'Rows.LawS5848AWholeSaid' ('example.com/suspicion/suspicion.LawS5848AWhole'), WRITTEN BY PROGRAM (proof-skeleton.mjs, third state) off the guide's own print for that function. Not trusted: Lean checks it.
  The walk below is ours; all else is the guide's own frame at this function's number and types.
-/
import Derived.Test.YbulkdqbyRows
import Derived.Test.YbulkdqbyALaw
import Derived.Test.YbulkdqbyOpenA
import Derived.WalkKit
import Derived.ProofKit
import Derived.OpenShut
import Derived.ShutString
import Derived.ChangeOld
import Derived.Below
namespace Go.Proofs.Ybulkdqby.lawS5848AWhole
open Go.ChangeShapes Go.WideShapes Go.ChangeAt Go.RowKit
open Go.ChangeMaps (open_string shut_string)
set_option linter.unusedVariables false

theorem own : ownKnob Yba.prog.godebug = none := by kernel_rfl
theorem laidOut : laidOutB Yba.prog = true := by kernel_rfl

/-! ### STEP 1: THE WALK: the Go text returns true, and writes nothing that was there (YbulkdqbyALaw). -/
theorem walk (pe tm fl dl pl lr ln ha ti ss lt : Int) (sf su lo he : Bool) (now : Int) (w : World) (w4 : (Lit.int .i64 dl).wf = true) (w9 : (Lit.int .i64 ha).wf = true) (w12 : (Lit.int .i64 ss).wf = true) (w13 : (Lit.int .i64 lt).wf = true) (wn : (Lit.int .i64 now).wf = true) :
    Calls Yba.prog 3 #[.agg #[.int .u32 pe, .int .i64 tm, .int .i64 fl, .bool sf, .int .i64 dl, .bool su, .int .i64 pl, .int .u64 lr, .int .u64 ln, .int .i64 ha, .int .i64 ti, .bool lo, .int .i64 ss, .int .i64 lt, .bool he], .int .i64 now] w fun e w' => e = .returned (.bool true) ∧ Below w.heap.size w w' :=
  alaw_walk pe tm fl dl pl lr ln ha ti ss lt now sf su lo he w (bounds_i64 w4).1 (bounds_i64 w4).2 (bounds_i64 w9).1 (bounds_i64 w9).2 (bounds_i64 w12).1 (bounds_i64 w12).2 (bounds_i64 w13).1 (bounds_i64 w13).2 (bounds_i64 wn).1 (bounds_i64 wn).2

/-! ### THE ROW's STEP: WRITTEN OUT: LEAVE IT -/
set_option maxRecDepth 100000 in
theorem lifted (os : Os) (started : os.Started) (H : Type) (enc : TypeId × Value → H) :
    ReturnsInHanded {} Yba.checked os 3 .any (Rows.lawS5848AWholeSpec.pre6 enc Yba.prog Yba.f3 Rows.lawS5848AWholeRow.domain false) (Rows.lawS5848AWholeSpec.post enc Yba.prog Yba.f3 false true false false) := by
  refine returnsInHanded_of_change (C := Yba.checked) own started (by kernel_rfl) Yba.func3
    (ChangeSpec.witness6 (enc := enc) (C := Yba.checked) false ⟨#[], #[.agg #[.int .u32 0, .int .i64 0, .int .i64 0, .bool false, .int .i64 0, .bool false, .int .i64 0, .int .u64 0, .int .u64 0, .int .i64 0, .int .i64 0, .bool false, .int .i64 0, .int .i64 0, .bool false], .int .i64 0], []⟩ 8 (by kernel_rfl) (by kernel_rfl) (by kernel_rfl) (by kernel_rfl)) ?_
  intro W base args ds gs before hval0 hW hcnd _
  have hval : ∀ (j : Nat) t v, Yba.f3.params[j]? = some t → args[j]? = some v → Value.okWide Yba.prog W .any base t v := hval0
  have hW' := hW
  obtain ⟨p, q, hA0, hV, rfl, hfz, hnd⟩ := hW
  have hA : DataW.TrodAll enc Yba.prog W 0 (fun _ => true) true Yba.f3.params.toList args.toList ds p := hA0
  rw [Yba.params3] at hA hval
  obtain ⟨v0, vs0, d0, ds0, p0, q0, hargs, rfl, rfl, h0, r0⟩ := trodAll_cons hA
  obtain ⟨v1, vs1, d1, ds1, p1, q1, rfl, rfl, rfl, h1, r1⟩ := trodAll_cons r0
  obtain ⟨rfl, rfl, rfl⟩ := trodAll_nil r1
  obtain rfl : args = #[v0, v1] := by cases args; simp_all
  obtain ⟨rfl, rfl⟩ := trodVars_none hV
  have k0 := h0
  have lt0 : ∀ x ∈ p0, x.block < W.heap.size := by obtain ⟨m, hm⟩ := k0; exact DataW.trod_lt m _ _ _ hm
  obtain ⟨pe, tm, fl, dl, pl, lr, ln, ha, ti, ss, lt, sf, su, lo, he, rfl, w4, w9, w12, w13⟩ := open15 (hval 0 25 v0 rfl rfl) h0
  obtain ⟨now, rfl, rfl, rfl, wn⟩ := open_int Yba.underlying2 (hval 1 2 v1 rfl rfl) h1
  clear hA0 hval0
  refine (walk pe tm fl dl pl lr ln ha ti ss lt sf su lo he now W w4 w9 w12 w13 wn).mono fun e W' ⟨hend, bel⟩ => ?_
  subst hend
  exact ⟨_, rfl, _, _, _, [], _, [], hW', trodAll_mk1 (shut_bool Yba.underlying4 _), (trodAll_cons_mk (Below.trod laidOut (by kernel_rfl) (of_decide_eq_true (by kernel_rfl)) k0 bel lt0) (trodAll_cons_mk (shut_int Yba.underlying2 wn) trodAll_mk0)), rfl, bel.frame _, fun h => by cases h⟩

theorem over : Rows.lawS5848AWholeRow.holds Yba.pinned (OpenSpec.ofChange Rows.lawS5848AWholeSpec) :=
  OpenClaim.holds_of_wide 3 Yba.f3 rfl rfl rfl rfl rfl rfl rfl ⟨rfl, rfl, rfl, rfl, rfl⟩ rfl rfl rfl rfl rfl (by kernel_rfl) Yba.func3 (by kernel_rfl)
    (of_decide_eq_true (by kernel_rfl)) (by unfold Func.isWrapper; first | (rw [if_pos (by decide +kernel)]; kernel_rfl) | (rw [if_neg (by decide +kernel)]; exact ⟨rfl, rfl⟩))
    (fun os started H enc _ => lifted os started H enc)

/-- ████ THE STATEMENT ████ -/
theorem proved : Rows.LawS5848AWholeSaid := over
#print axioms proved
end Go.Proofs.Ybulkdqby.lawS5848AWhole

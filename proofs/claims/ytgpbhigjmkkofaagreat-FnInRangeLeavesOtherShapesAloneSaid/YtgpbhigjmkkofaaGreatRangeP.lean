/-
  PROVED: at every input the Go function FnInRangeLeavesOtherShapesAlone returns true, and each argument reads afterwards as it read before: the statement Rows.FnInRangeLeavesOtherShapesAloneSaid. No condition.
-/
import Derived.Test.YtgpbhigjmkkofaaGreatFacts
import Derived.Test.YtgpbhigjmkkofaaGreatClosed
import Derived.Test.YtgpbhigjmkkofaaGreatOpen
import Derived.Test.YtgpbhigjmkkofaaGreatRangeD
import Derived.WalkKit
import Derived.ProofKit
import Derived.OpenShut
import Derived.ShutString
import Derived.ChangeOld
import Derived.Below
namespace Go.Proofs.YtgpbhigjmkkofaaGreat.fnInRangeLeavesOtherShapesAlone
open Go.ChangeShapes Go.WideShapes Go.ChangeAt Go.RowKit
open Go.ChangeMaps (open_string shut_string)
set_option linter.unusedVariables false

theorem own : ownKnob Tryz.prog.godebug = none := by kernel_rfl
theorem wf : Rows.fnInRangeLeavesOtherShapesAloneRow.wf (OpenSpec.ofChange Rows.fnInRangeLeavesOtherShapesAloneSpec) = true := by kernel_rfl
theorem plainRow : Closed.PlainRow Rows.fnInRangeLeavesOtherShapesAloneRow = true := by kernel_rfl
theorem called : Tryz.checked.prog.funcNamed Rows.fnInRangeLeavesOtherShapesAloneRow.func = some 3 := by kernel_rfl
theorem params : Tryz.f3.params.toList = [29, 29, 29, 29, 4, 3, 3] := by kernel_rfl
theorem resTypes : Tryz.f3.resultTypes.toList = [4] := by kernel_rfl
theorem ltBool : 4 < Tryz.checked.prog.types.size := of_decide_eq_true (by kernel_rfl)
theorem flat29 : Closed.Flat Tryz.checked.prog 29 := Closed.flat_int Tryz.underlying29
theorem flat4 : Closed.Flat Tryz.checked.prog 4 := Closed.flat_bool Tryz.underlying4
theorem flat3 : Closed.Flat Tryz.checked.prog 3 := Closed.flat_int Tryz.underlying3
theorem inPl : Rows.fnInRangeLeavesOtherShapesAloneRow.inPlace = Tryz.checked.prog.inPlace 3 := eq_of_beq (by kernel_rfl)
theorem unf : Rows.fnInRangeLeavesOtherShapesAloneRow.unfollowed = Tryz.checked.prog.unfollowed 3 := by kernel_rfl
theorem recu : Rows.fnInRangeLeavesOtherShapesAloneRow.recurses = Tryz.checked.prog.recurses 3 := by kernel_rfl
theorem nam : Rows.fnInRangeLeavesOtherShapesAloneRow.named = Tryz.checked.prog.varsNamed 3 := by kernel_rfl
theorem mout : Tryz.checked.prog.mapsAmong Tryz.f3.resultTypes.toList = false := by kernel_rfl
theorem closed : joinedFacts Tryz.checked.prog 3 Tryz.f3 Rows.fnInRangeLeavesOtherShapesAloneSpec Rows.fnInRangeLeavesOtherShapesAloneRow = true :=
  Closed.closed_of Facts.three.1 Facts.three.2.1 Facts.three.2.2 Facts.heard Facts.enter Facts.lifts Facts.stops Facts.knobs Facts.made wf rfl plainRow
    (by rw [params]; intro t ht; simp only [List.mem_cons, List.not_mem_nil, or_false] at ht; rcases ht with rfl | rfl | rfl | rfl | rfl | rfl | rfl <;> first | exact flat29 | exact flat4 | exact flat3)
    (by rw [resTypes]; intro t ht; simp only [List.mem_cons, List.not_mem_nil, or_false] at ht; subst ht; exact ⟨flat4, ltBool⟩)
    inPl unf recu nam rfl mout

theorem walk (a0 : Int) (a1 : Int) (a2 : Int) (a3 : Int) (a4 : Bool) (a5 : Int) (a6 : Int) (w : World) (w0 : (Lit.int .i8 a0).wf = true) (w1 : (Lit.int .i8 a1).wf = true) (w2 : (Lit.int .i8 a2).wf = true) (w3 : (Lit.int .i8 a3).wf = true) (w5 : (Lit.int .i64 a5).wf = true) (w6 : (Lit.int .i64 a6).wf = true) :
    Calls Tryz.prog 3 #[.int .i8 a0, .int .i8 a1, .int .i8 a2, .int .i8 a3, .bool a4, .int .i64 a5, .int .i64 a6] w fun e w' => e = .returned (.bool true) ∧ Below w.heap.size w w' :=
  law104 a0 a1 a2 a3 a4 a5 a6 w w0 w1 w2 w3 w5 w6

set_option maxRecDepth 100000 in
theorem lifted (os : Os) (started : os.Started) (H : Type) (enc : TypeId × Value → H) :
    ReturnsInHanded {} Tryz.checked os 3 .any (Rows.fnInRangeLeavesOtherShapesAloneSpec.pre6 enc Tryz.prog Tryz.f3 Rows.fnInRangeLeavesOtherShapesAloneRow.domain false) (Rows.fnInRangeLeavesOtherShapesAloneSpec.post enc Tryz.prog Tryz.f3 false true false false) := by
  refine returnsInHanded_of_change (C := Tryz.checked) own started (by kernel_rfl) Tryz.func3
    (ChangeSpec.witness6 (enc := enc) (C := Tryz.checked) false ⟨#[], #[.int .i8 0, .int .i8 0, .int .i8 0, .int .i8 0, .bool false, .int .i64 0, .int .i64 0], []⟩ 8 (by kernel_rfl) (by kernel_rfl) (by kernel_rfl) (by kernel_rfl)) ?_
  intro W base args ds gs before hval0 hW hcnd _
  have hval : ∀ (j : Nat) t v, Tryz.f3.params[j]? = some t → args[j]? = some v → Value.okWide Tryz.prog W .any base t v := hval0
  have hW' := hW
  obtain ⟨p, q, hA0, hV, rfl, hfz, hnd⟩ := hW
  have hA : DataW.TrodAll enc Tryz.prog W 0 (fun _ => true) true Tryz.f3.params.toList args.toList ds p := hA0
  rw [Tryz.params3] at hA hval
  obtain ⟨v0, vs0, d0, ds0, p0, q0, hargs, rfl, rfl, h0, r0⟩ := trodAll_cons hA
  obtain ⟨v1, vs1, d1, ds1, p1, q1, rfl, rfl, rfl, h1, r1⟩ := trodAll_cons r0
  obtain ⟨v2, vs2, d2, ds2, p2, q2, rfl, rfl, rfl, h2, r2⟩ := trodAll_cons r1
  obtain ⟨v3, vs3, d3, ds3, p3, q3, rfl, rfl, rfl, h3, r3⟩ := trodAll_cons r2
  obtain ⟨v4, vs4, d4, ds4, p4, q4, rfl, rfl, rfl, h4, r4⟩ := trodAll_cons r3
  obtain ⟨v5, vs5, d5, ds5, p5, q5, rfl, rfl, rfl, h5, r5⟩ := trodAll_cons r4
  obtain ⟨v6, vs6, d6, ds6, p6, q6, rfl, rfl, rfl, h6, r6⟩ := trodAll_cons r5
  obtain ⟨rfl, rfl, rfl⟩ := trodAll_nil r6
  obtain rfl : args = #[v0, v1, v2, v3, v4, v5, v6] := by cases args; simp_all
  obtain ⟨rfl, rfl⟩ := trodVars_none hV
  obtain ⟨a0, rfl, rfl, rfl, w0⟩ := open_int Tryz.underlying29 (hval 0 29 v0 rfl rfl) h0
  obtain ⟨a1, rfl, rfl, rfl, w1⟩ := open_int Tryz.underlying29 (hval 1 29 v1 rfl rfl) h1
  obtain ⟨a2, rfl, rfl, rfl, w2⟩ := open_int Tryz.underlying29 (hval 2 29 v2 rfl rfl) h2
  obtain ⟨a3, rfl, rfl, rfl, w3⟩ := open_int Tryz.underlying29 (hval 3 29 v3 rfl rfl) h3
  obtain ⟨a4, rfl, rfl, rfl⟩ := open_bool Tryz.underlying4 (hval 4 4 v4 rfl rfl) h4
  obtain ⟨a5, rfl, rfl, rfl, w5⟩ := open_int Tryz.underlying3 (hval 5 3 v5 rfl rfl) h5
  obtain ⟨a6, rfl, rfl, rfl, w6⟩ := open_int Tryz.underlying3 (hval 6 3 v6 rfl rfl) h6
  clear hA0 hval0
  refine (walk a0 a1 a2 a3 a4 a5 a6 W w0 w1 w2 w3 w5 w6).mono fun e W' ⟨he, hg⟩ => ?_
  subst he
  exact ⟨_, rfl, _, _, _, [], _, [], hW', trodAll_mk1 (shut_bool Tryz.underlying4 _), (trodAll_cons_mk (shut_int Tryz.underlying29 w0) (trodAll_cons_mk (shut_int Tryz.underlying29 w1) (trodAll_cons_mk (shut_int Tryz.underlying29 w2) (trodAll_cons_mk (shut_int Tryz.underlying29 w3) (trodAll_cons_mk (shut_bool Tryz.underlying4 _) (trodAll_cons_mk (shut_int Tryz.underlying3 w5) (trodAll_cons_mk (shut_int Tryz.underlying3 w6) trodAll_mk0))))))), rfl, hg.frame _, fun h => by cases h⟩

theorem over : Rows.fnInRangeLeavesOtherShapesAloneRow.holds Tryz.pinned (OpenSpec.ofChange Rows.fnInRangeLeavesOtherShapesAloneSpec) :=
  OpenClaim.holds_of_wide 3 Tryz.f3 rfl rfl rfl rfl rfl rfl rfl ⟨rfl, rfl, rfl, rfl, rfl⟩ rfl rfl rfl rfl rfl called Tryz.func3 closed
    (of_decide_eq_true (by kernel_rfl)) (by unfold Func.isWrapper; first | (rw [if_pos (by decide +kernel)]; kernel_rfl) | (rw [if_neg (by decide +kernel)]; exact ⟨rfl, rfl⟩))
    (fun os started H enc _ => lifted os started H enc)

theorem proved : Rows.FnInRangeLeavesOtherShapesAloneSaid := over
#print axioms proved
end Go.Proofs.YtgpbhigjmkkofaaGreat.fnInRangeLeavesOtherShapesAlone

/-
  PROVED: at every input the Go function FnFlattenTwoLevelsIsConcatenation returns true, and each argument reads afterwards as it read before: the statement Rows.FnFlattenTwoLevelsIsConcatenationSaid. No condition.
-/
import Derived.Test.YtgnilcmhaobgeaaGreatFacts
import Derived.Test.YtgnilcmhaobgeaaGreatClosed
import Derived.Test.YtgnilcmhaobgeaaGreatOpen
import Derived.Test.YtgnilcmhaobgeaaGreatFlaH
import Derived.Test.YtgnilcmhaobgeaaGreatFlaO
import Derived.WalkKit
import Derived.ProofKit
import Derived.OpenShut
import Derived.ShutString
import Derived.ChangeOld
import Derived.Below
namespace Go.Proofs.YtgnilcmhaobgeaaGreat.fnFlattenTwoLevelsIsConcatenation
open Go.ChangeShapes Go.WideShapes Go.ChangeAt Go.RowKit
open Go.ChangeMaps (open_string shut_string)
set_option linter.unusedVariables false

theorem own : ownKnob Tryz.prog.godebug = none := by kernel_rfl
theorem wf : Rows.fnFlattenTwoLevelsIsConcatenationRow.wf (OpenSpec.ofChange Rows.fnFlattenTwoLevelsIsConcatenationSpec) = true := by kernel_rfl
theorem plainRow : Closed.PlainRow Rows.fnFlattenTwoLevelsIsConcatenationRow = true := by kernel_rfl
theorem called : Tryz.checked.prog.funcNamed Rows.fnFlattenTwoLevelsIsConcatenationRow.func = some 3 := by kernel_rfl
theorem params : Tryz.f3.params.toList = [36, 3] := by kernel_rfl
theorem resTypes : Tryz.f3.resultTypes.toList = [4] := by kernel_rfl
theorem ltBool : 4 < Tryz.checked.prog.types.size := of_decide_eq_true (by kernel_rfl)
theorem flat36 : Closed.Flat Tryz.checked.prog 36 := ⟨by kernel_rfl, by kernel_rfl, by kernel_rfl, by kernel_rfl, by kernel_rfl, by kernel_rfl⟩
theorem flat3 : Closed.Flat Tryz.checked.prog 3 := Closed.flat_int Tryz.underlying3
theorem flat4 : Closed.Flat Tryz.checked.prog 4 := Closed.flat_bool Tryz.underlying4
theorem inPl : Rows.fnFlattenTwoLevelsIsConcatenationRow.inPlace = Tryz.checked.prog.inPlace 3 := eq_of_beq (by kernel_rfl)
theorem unf : Rows.fnFlattenTwoLevelsIsConcatenationRow.unfollowed = Tryz.checked.prog.unfollowed 3 := by kernel_rfl
theorem recu : Rows.fnFlattenTwoLevelsIsConcatenationRow.recurses = Tryz.checked.prog.recurses 3 := by kernel_rfl
theorem nam : Rows.fnFlattenTwoLevelsIsConcatenationRow.named = Tryz.checked.prog.varsNamed 3 := by kernel_rfl
theorem mout : Tryz.checked.prog.mapsAmong Tryz.f3.resultTypes.toList = false := by kernel_rfl
theorem closed : joinedFacts Tryz.checked.prog 3 Tryz.f3 Rows.fnFlattenTwoLevelsIsConcatenationSpec Rows.fnFlattenTwoLevelsIsConcatenationRow = true :=
  Closed.closed_of Facts.three.1 Facts.three.2.1 Facts.three.2.2 Facts.heard Facts.enter Facts.lifts Facts.stops Facts.knobs Facts.made wf rfl plainRow
    (by rw [params]; intro t ht; simp only [List.mem_cons, List.not_mem_nil, or_false] at ht; rcases ht with rfl | rfl <;> first | exact flat36 | exact flat3 | exact flat4)
    (by rw [resTypes]; intro t ht; simp only [List.mem_cons, List.not_mem_nil, or_false] at ht; subst ht; exact ⟨flat4, ltBool⟩)
    inPl unf recu nam rfl mout

theorem walk (a0 : Value) (z0 : List (List Int)) (a1 : Int) (w : World) (w0 : In2 w a0 z0) (w1 : (Lit.int .i64 a1).wf = true) :
    Calls Tryz.prog 3 #[a0, .int .i64 a1] w fun e w' => e = .returned (.bool true) ∧ Below w.heap.size w w' :=
  lawF2 a0 z0 a1 w w0 w1

set_option maxRecDepth 100000 in
theorem lifted (os : Os) (started : os.Started) (H : Type) (enc : TypeId × Value → H) :
    ReturnsInHanded {} Tryz.checked os 3 .any (Rows.fnFlattenTwoLevelsIsConcatenationSpec.pre6 enc Tryz.prog Tryz.f3 Rows.fnFlattenTwoLevelsIsConcatenationRow.domain false) (Rows.fnFlattenTwoLevelsIsConcatenationSpec.post enc Tryz.prog Tryz.f3 false true false false) := by
  refine returnsInHanded_of_change (C := Tryz.checked) own started (by kernel_rfl) Tryz.func3
    (ChangeSpec.witness6 (enc := enc) (C := Tryz.checked) false ⟨#[], #[.slice none 0 0, .int .i64 0], []⟩ 8 (by kernel_rfl) (by kernel_rfl) (by kernel_rfl) (by kernel_rfl)) ?_
  intro W base args ds gs before hval0 hW hcnd _
  have hval : ∀ (j : Nat) t v, Tryz.f3.params[j]? = some t → args[j]? = some v → Value.okWide Tryz.prog W .any base t v := hval0
  have hW' := hW
  obtain ⟨p, q, hA0, hV, rfl, hfz, hnd⟩ := hW
  have hA : DataW.TrodAll enc Tryz.prog W 0 (fun _ => true) true Tryz.f3.params.toList args.toList ds p := hA0
  rw [Tryz.params3] at hA hval
  obtain ⟨v0, vs0, d0, ds0, p0, q0, hargs, rfl, rfl, h0, r0⟩ := trodAll_cons hA
  obtain ⟨v1, vs1, d1, ds1, p1, q1, rfl, rfl, rfl, h1, r1⟩ := trodAll_cons r0
  obtain ⟨rfl, rfl, rfl⟩ := trodAll_nil r1
  obtain rfl : args = #[v0, v1] := by cases args; simp_all
  obtain ⟨rfl, rfl⟩ := trodVars_none hV
  obtain ⟨a0, l0, c0, rfl⟩ := okWide_slice Tryz.underlying36 (hval 0 36 v0 rfl rfl)
  have k0 := h0
  have lt0 : ∀ x ∈ p0, x.block < W.heap.size := by obtain ⟨m, hm⟩ := k0; exact DataW.trod_lt m _ _ _ hm
  obtain ⟨fu0, hf0⟩ := h0
  obtain ⟨z0, w0⟩ := open_in2 (by simpa [Value.cells] using hf0)
  obtain ⟨a1, rfl, rfl, rfl, w1⟩ := open_int Tryz.underlying3 (hval 1 3 v1 rfl rfl) h1
  clear hA0 hval0
  refine (walk _ z0 a1 W w0 w1).mono fun e W' ⟨he, hg⟩ => ?_
  subst he
  exact ⟨_, rfl, _, _, _, [], _, [], hW', trodAll_mk1 (shut_bool Tryz.underlying4 _), (trodAll_cons_mk (Below.trod Facts.three.1 (by kernel_rfl) (of_decide_eq_true (by kernel_rfl)) k0 hg lt0) (trodAll_cons_mk (shut_int Tryz.underlying3 w1) trodAll_mk0)), rfl, hg.frame _, fun h => by cases h⟩

theorem over : Rows.fnFlattenTwoLevelsIsConcatenationRow.holds Tryz.pinned (OpenSpec.ofChange Rows.fnFlattenTwoLevelsIsConcatenationSpec) :=
  OpenClaim.holds_of_wide 3 Tryz.f3 rfl rfl rfl rfl rfl rfl rfl ⟨rfl, rfl, rfl, rfl, rfl⟩ rfl rfl rfl rfl rfl called Tryz.func3 closed
    (of_decide_eq_true (by kernel_rfl)) (by unfold Func.isWrapper; first | (rw [if_pos (by decide +kernel)]; kernel_rfl) | (rw [if_neg (by decide +kernel)]; exact ⟨rfl, rfl⟩))
    (fun os started H enc _ => lifted os started H enc)

theorem proved : Rows.FnFlattenTwoLevelsIsConcatenationSaid := over
#print axioms proved
end Go.Proofs.YtgnilcmhaobgeaaGreat.fnFlattenTwoLevelsIsConcatenation

/-
  PROVED: at every input the Go function FnFlattenThreeLevelsAgreesWithOneLevelJoined returns true, and each argument reads afterwards as it read before: the statement Rows.FnFlattenThreeLevelsAgreesWithOneLevelJoinedSaid. No condition.
-/
import Derived.Test.YtgnilcmhaobgeaaGreatFacts
import Derived.Test.YtgnilcmhaobgeaaGreatClosed
import Derived.Test.YtgnilcmhaobgeaaGreatOpen
import Derived.Test.YtgnilcmhaobgeaaGreatFlaM
import Derived.Test.YtgnilcmhaobgeaaGreatFlaO
import Derived.WalkKit
import Derived.ProofKit
import Derived.OpenShut
import Derived.ShutString
import Derived.ChangeOld
import Derived.Below
namespace Go.Proofs.YtgnilcmhaobgeaaGreat.fnFlattenThreeLevelsAgreesWithOneLevelJoined
open Go.ChangeShapes Go.WideShapes Go.ChangeAt Go.RowKit
open Go.ChangeMaps (open_string shut_string)
set_option linter.unusedVariables false

theorem own : ownKnob Tryz.prog.godebug = none := by kernel_rfl
theorem wf : Rows.fnFlattenThreeLevelsAgreesWithOneLevelJoinedRow.wf (OpenSpec.ofChange Rows.fnFlattenThreeLevelsAgreesWithOneLevelJoinedSpec) = true := by kernel_rfl
theorem plainRow : Closed.PlainRow Rows.fnFlattenThreeLevelsAgreesWithOneLevelJoinedRow = true := by kernel_rfl
theorem called : Tryz.checked.prog.funcNamed Rows.fnFlattenThreeLevelsAgreesWithOneLevelJoinedRow.func = some 4 := by kernel_rfl
theorem params : Tryz.f4.params.toList = [42] := by kernel_rfl
theorem resTypes : Tryz.f4.resultTypes.toList = [4] := by kernel_rfl
theorem ltBool : 4 < Tryz.checked.prog.types.size := of_decide_eq_true (by kernel_rfl)
theorem flat42 : Closed.Flat Tryz.checked.prog 42 := ⟨by kernel_rfl, by kernel_rfl, by kernel_rfl, by kernel_rfl, by kernel_rfl, by kernel_rfl⟩
theorem flat4 : Closed.Flat Tryz.checked.prog 4 := Closed.flat_bool Tryz.underlying4
theorem inPl : Rows.fnFlattenThreeLevelsAgreesWithOneLevelJoinedRow.inPlace = Tryz.checked.prog.inPlace 4 := eq_of_beq (by kernel_rfl)
theorem unf : Rows.fnFlattenThreeLevelsAgreesWithOneLevelJoinedRow.unfollowed = Tryz.checked.prog.unfollowed 4 := by kernel_rfl
theorem recu : Rows.fnFlattenThreeLevelsAgreesWithOneLevelJoinedRow.recurses = Tryz.checked.prog.recurses 4 := by kernel_rfl
theorem nam : Rows.fnFlattenThreeLevelsAgreesWithOneLevelJoinedRow.named = Tryz.checked.prog.varsNamed 4 := by kernel_rfl
theorem mout : Tryz.checked.prog.mapsAmong Tryz.f4.resultTypes.toList = false := by kernel_rfl
theorem closed : joinedFacts Tryz.checked.prog 4 Tryz.f4 Rows.fnFlattenThreeLevelsAgreesWithOneLevelJoinedSpec Rows.fnFlattenThreeLevelsAgreesWithOneLevelJoinedRow = true :=
  Closed.closed_of Facts.three.1 Facts.three.2.1 Facts.three.2.2 Facts.heard Facts.enter Facts.lifts Facts.stops Facts.knobs Facts.made wf rfl plainRow
    (by rw [params]; intro t ht; simp only [List.mem_cons, List.not_mem_nil, or_false] at ht; subst ht; exact flat42)
    (by rw [resTypes]; intro t ht; simp only [List.mem_cons, List.not_mem_nil, or_false] at ht; subst ht; exact ⟨flat4, ltBool⟩)
    inPl unf recu nam rfl mout

theorem walk (a0 : Value) (z0 : List (List (List Int))) (w : World) (w0 : In3 w a0 z0) :
    Calls Tryz.prog 4 #[a0] w fun e w' => e = .returned (.bool true) ∧ Below w.heap.size w w' :=
  lawF3 a0 z0 w w0

set_option maxRecDepth 100000 in
theorem lifted (os : Os) (started : os.Started) (H : Type) (enc : TypeId × Value → H) :
    ReturnsInHanded {} Tryz.checked os 4 .any (Rows.fnFlattenThreeLevelsAgreesWithOneLevelJoinedSpec.pre6 enc Tryz.prog Tryz.f4 Rows.fnFlattenThreeLevelsAgreesWithOneLevelJoinedRow.domain false) (Rows.fnFlattenThreeLevelsAgreesWithOneLevelJoinedSpec.post enc Tryz.prog Tryz.f4 false true false false) := by
  refine returnsInHanded_of_change (C := Tryz.checked) own started (by kernel_rfl) Tryz.func4
    (ChangeSpec.witness6 (enc := enc) (C := Tryz.checked) false ⟨#[], #[.slice none 0 0], []⟩ 8 (by kernel_rfl) (by kernel_rfl) (by kernel_rfl) (by kernel_rfl)) ?_
  intro W base args ds gs before hval0 hW hcnd _
  have hval : ∀ (j : Nat) t v, Tryz.f4.params[j]? = some t → args[j]? = some v → Value.okWide Tryz.prog W .any base t v := hval0
  have hW' := hW
  obtain ⟨p, q, hA0, hV, rfl, hfz, hnd⟩ := hW
  have hA : DataW.TrodAll enc Tryz.prog W 0 (fun _ => true) true Tryz.f4.params.toList args.toList ds p := hA0
  rw [Tryz.params4] at hA hval
  obtain ⟨v0, vs0, d0, ds0, p0, q0, hargs, rfl, rfl, h0, r0⟩ := trodAll_cons hA
  obtain ⟨rfl, rfl, rfl⟩ := trodAll_nil r0
  obtain rfl : args = #[v0] := by cases args; simp_all
  obtain ⟨rfl, rfl⟩ := trodVars_none hV
  obtain ⟨a0, l0, c0, rfl⟩ := okWide_slice Tryz.underlying42 (hval 0 42 v0 rfl rfl)
  have k0 := h0
  have lt0 : ∀ x ∈ p0, x.block < W.heap.size := by obtain ⟨m, hm⟩ := k0; exact DataW.trod_lt m _ _ _ hm
  obtain ⟨fu0, hf0⟩ := h0
  obtain ⟨z0, w0⟩ := open_in3 (by simpa [Value.cells] using hf0)
  clear hA0 hval0
  refine (walk _ z0 W w0).mono fun e W' ⟨he, hg⟩ => ?_
  subst he
  exact ⟨_, rfl, _, _, _, [], _, [], hW', trodAll_mk1 (shut_bool Tryz.underlying4 _), (trodAll_cons_mk (Below.trod Facts.three.1 (by kernel_rfl) (of_decide_eq_true (by kernel_rfl)) k0 hg lt0) trodAll_mk0), rfl, hg.frame _, fun h => by cases h⟩

theorem over : Rows.fnFlattenThreeLevelsAgreesWithOneLevelJoinedRow.holds Tryz.pinned (OpenSpec.ofChange Rows.fnFlattenThreeLevelsAgreesWithOneLevelJoinedSpec) :=
  OpenClaim.holds_of_wide 4 Tryz.f4 rfl rfl rfl rfl rfl rfl rfl ⟨rfl, rfl, rfl, rfl, rfl⟩ rfl rfl rfl rfl rfl called Tryz.func4 closed
    (of_decide_eq_true (by kernel_rfl)) (by unfold Func.isWrapper; first | (rw [if_pos (by decide +kernel)]; kernel_rfl) | (rw [if_neg (by decide +kernel)]; exact ⟨rfl, rfl⟩))
    (fun os started H enc _ => lifted os started H enc)

theorem proved : Rows.FnFlattenThreeLevelsAgreesWithOneLevelJoinedSaid := over
#print axioms proved
end Go.Proofs.YtgnilcmhaobgeaaGreat.fnFlattenThreeLevelsAgreesWithOneLevelJoined

/-
  PROVED: at every input the Go function FnFilterLastLastCallCaseTable returns true, and each argument reads afterwards as it read before: the statement Rows.FnFilterLastLastCallCaseTableSaid. No condition.
-/
import Derived.Test.YtglhhfeaopjinaaGreatFacts
import Derived.Test.YtglhhfeaopjinaaGreatClosed
import Derived.Test.YtglhhfeaopjinaaGreatOpen
import Derived.Test.YtglhhfeaopjinaaGreatLastC
import Derived.WalkKit
import Derived.ProofKit
import Derived.OpenShut
import Derived.ShutString
import Derived.ChangeOld
import Derived.Below
namespace Go.Proofs.YtglhhfeaopjinaaGreat.fnFilterLastLastCallCaseTable
open Go.ChangeShapes Go.WideShapes Go.ChangeAt Go.RowKit
open Go.ChangeMaps (open_string shut_string)
set_option linter.unusedVariables false

theorem own : ownKnob Tryz.prog.godebug = none := by kernel_rfl
theorem wf : Rows.fnFilterLastLastCallCaseTableRow.wf (OpenSpec.ofChange Rows.fnFilterLastLastCallCaseTableSpec) = true := by kernel_rfl
theorem plainRow : Closed.PlainRow Rows.fnFilterLastLastCallCaseTableRow = true := by kernel_rfl
theorem called : Tryz.checked.prog.funcNamed Rows.fnFilterLastLastCallCaseTableRow.func = some 5 := by kernel_rfl
theorem params : Tryz.f5.params.toList = [9, 3, 9, 3, 4] := by kernel_rfl
theorem resTypes : Tryz.f5.resultTypes.toList = [4] := by kernel_rfl
theorem ltBool : 4 < Tryz.checked.prog.types.size := of_decide_eq_true (by kernel_rfl)
theorem flat9 : Closed.Flat Tryz.checked.prog 9 := Closed.flat_string Tryz.underlying9
theorem flat3 : Closed.Flat Tryz.checked.prog 3 := Closed.flat_int Tryz.underlying3
theorem flat4 : Closed.Flat Tryz.checked.prog 4 := Closed.flat_bool Tryz.underlying4
theorem inPl : Rows.fnFilterLastLastCallCaseTableRow.inPlace = Tryz.checked.prog.inPlace 5 := eq_of_beq (by kernel_rfl)
theorem unf : Rows.fnFilterLastLastCallCaseTableRow.unfollowed = Tryz.checked.prog.unfollowed 5 := by kernel_rfl
theorem recu : Rows.fnFilterLastLastCallCaseTableRow.recurses = Tryz.checked.prog.recurses 5 := by kernel_rfl
theorem nam : Rows.fnFilterLastLastCallCaseTableRow.named = Tryz.checked.prog.varsNamed 5 := by kernel_rfl
theorem mout : Tryz.checked.prog.mapsAmong Tryz.f5.resultTypes.toList = false := by kernel_rfl
theorem closed : joinedFacts Tryz.checked.prog 5 Tryz.f5 Rows.fnFilterLastLastCallCaseTableSpec Rows.fnFilterLastLastCallCaseTableRow = true :=
  Closed.closed_of Facts.three.1 Facts.three.2.1 Facts.three.2.2 Facts.heard Facts.enter Facts.lifts Facts.stops Facts.knobs Facts.made wf rfl plainRow
    (by rw [params]; intro t ht; simp only [List.mem_cons, List.not_mem_nil, or_false] at ht; rcases ht with rfl | rfl | rfl | rfl | rfl <;> first | exact flat9 | exact flat3 | exact flat4)
    (by rw [resTypes]; intro t ht; simp only [List.mem_cons, List.not_mem_nil, or_false] at ht; subst ht; exact ⟨flat4, ltBool⟩)
    inPl unf recu nam rfl mout

theorem walk (a0 : ByteArray) (a1 : Int) (a2 : ByteArray) (a3 : Int) (a4 : Bool) (w : World) (w0 : a0.size ≤ maxLen) (w1 : (Lit.int .i64 a1).wf = true) (w2 : a2.size ≤ maxLen) (w3 : (Lit.int .i64 a3).wf = true) :
    Calls Tryz.prog 5 #[.string a0, .int .i64 a1, .string a2, .int .i64 a3, .bool a4] w fun e w' => e = .returned (.bool true) ∧ Below w.heap.size w w' :=
  lawLast a0 a1 a2 a3 a4 w w0 w2

set_option maxRecDepth 100000 in
theorem lifted (os : Os) (started : os.Started) (H : Type) (enc : TypeId × Value → H) :
    ReturnsInHanded {} Tryz.checked os 5 .any (Rows.fnFilterLastLastCallCaseTableSpec.pre6 enc Tryz.prog Tryz.f5 Rows.fnFilterLastLastCallCaseTableRow.domain false) (Rows.fnFilterLastLastCallCaseTableSpec.post enc Tryz.prog Tryz.f5 false true false false) := by
  refine returnsInHanded_of_change (C := Tryz.checked) own started (by kernel_rfl) Tryz.func5
    (ChangeSpec.witness6 (enc := enc) (C := Tryz.checked) false ⟨#[], #[.string ByteArray.empty, .int .i64 0, .string ByteArray.empty, .int .i64 0, .bool false], []⟩ 8 (by kernel_rfl) (by kernel_rfl) (by kernel_rfl) (by kernel_rfl)) ?_
  intro W base args ds gs before hval0 hW hcnd _
  have hval : ∀ (j : Nat) t v, Tryz.f5.params[j]? = some t → args[j]? = some v → Value.okWide Tryz.prog W .any base t v := hval0
  have hW' := hW
  obtain ⟨p, q, hA0, hV, rfl, hfz, hnd⟩ := hW
  have hA : DataW.TrodAll enc Tryz.prog W 0 (fun _ => true) true Tryz.f5.params.toList args.toList ds p := hA0
  rw [Tryz.params5] at hA hval
  obtain ⟨v0, vs0, d0, ds0, p0, q0, hargs, rfl, rfl, h0, r0⟩ := trodAll_cons hA
  obtain ⟨v1, vs1, d1, ds1, p1, q1, rfl, rfl, rfl, h1, r1⟩ := trodAll_cons r0
  obtain ⟨v2, vs2, d2, ds2, p2, q2, rfl, rfl, rfl, h2, r2⟩ := trodAll_cons r1
  obtain ⟨v3, vs3, d3, ds3, p3, q3, rfl, rfl, rfl, h3, r3⟩ := trodAll_cons r2
  obtain ⟨v4, vs4, d4, ds4, p4, q4, rfl, rfl, rfl, h4, r4⟩ := trodAll_cons r3
  obtain ⟨rfl, rfl, rfl⟩ := trodAll_nil r4
  obtain rfl : args = #[v0, v1, v2, v3, v4] := by cases args; simp_all
  obtain ⟨rfl, rfl⟩ := trodVars_none hV
  obtain ⟨a0, rfl, rfl, rfl, w0⟩ := open_string Tryz.underlying9 (hval 0 9 v0 rfl rfl) h0
  obtain ⟨a1, rfl, rfl, rfl, w1⟩ := open_int Tryz.underlying3 (hval 1 3 v1 rfl rfl) h1
  obtain ⟨a2, rfl, rfl, rfl, w2⟩ := open_string Tryz.underlying9 (hval 2 9 v2 rfl rfl) h2
  obtain ⟨a3, rfl, rfl, rfl, w3⟩ := open_int Tryz.underlying3 (hval 3 3 v3 rfl rfl) h3
  obtain ⟨a4, rfl, rfl, rfl⟩ := open_bool Tryz.underlying4 (hval 4 4 v4 rfl rfl) h4
  clear hA0 hval0
  refine (walk a0 a1 a2 a3 a4 W w0 w1 w2 w3).mono fun e W' ⟨he, hg⟩ => ?_
  subst he
  exact ⟨_, rfl, _, _, _, [], _, [], hW', trodAll_mk1 (shut_bool Tryz.underlying4 _), (trodAll_cons_mk (shut_string Tryz.underlying9 w0) (trodAll_cons_mk (shut_int Tryz.underlying3 w1) (trodAll_cons_mk (shut_string Tryz.underlying9 w2) (trodAll_cons_mk (shut_int Tryz.underlying3 w3) (trodAll_cons_mk (shut_bool Tryz.underlying4 _) trodAll_mk0))))), rfl, hg.frame _, fun h => by cases h⟩

theorem over : Rows.fnFilterLastLastCallCaseTableRow.holds Tryz.pinned (OpenSpec.ofChange Rows.fnFilterLastLastCallCaseTableSpec) :=
  OpenClaim.holds_of_wide 5 Tryz.f5 rfl rfl rfl rfl rfl rfl rfl ⟨rfl, rfl, rfl, rfl, rfl⟩ rfl rfl rfl rfl rfl called Tryz.func5 closed
    (of_decide_eq_true (by kernel_rfl)) (by unfold Func.isWrapper; first | (rw [if_pos (by decide +kernel)]; kernel_rfl) | (rw [if_neg (by decide +kernel)]; exact ⟨rfl, rfl⟩))
    (fun os started H enc _ => lifted os started H enc)

theorem proved : Rows.FnFilterLastLastCallCaseTableSaid := over
#print axioms proved
end Go.Proofs.YtglhhfeaopjinaaGreat.fnFilterLastLastCallCaseTable

/-
  PROVED: at every input the Go function FnFilterLastMemberCaseTable returns true, and each argument reads afterwards as it read before: the statement Rows.FnFilterLastMemberCaseTableSaid. No condition.
-/
import Derived.Test.YtglhhfeaopjinaaGreatFacts
import Derived.Test.YtglhhfeaopjinaaGreatClosed
import Derived.Test.YtglhhfeaopjinaaGreatOpen
import Derived.Test.YtglhhfeaopjinaaGreatLastD
import Derived.WalkKit
import Derived.ProofKit
import Derived.OpenShut
import Derived.ShutString
import Derived.ChangeOld
import Derived.Below
namespace Go.Proofs.YtglhhfeaopjinaaGreat.fnFilterLastMemberCaseTable
open Go.ChangeShapes Go.WideShapes Go.ChangeAt Go.RowKit
open Go.ChangeMaps (open_string shut_string)
set_option linter.unusedVariables false

theorem own : ownKnob Tryz.prog.godebug = none := by kernel_rfl
theorem wf : Rows.fnFilterLastMemberCaseTableRow.wf (OpenSpec.ofChange Rows.fnFilterLastMemberCaseTableSpec) = true := by kernel_rfl
theorem plainRow : Closed.PlainRow Rows.fnFilterLastMemberCaseTableRow = true := by kernel_rfl
theorem called : Tryz.checked.prog.funcNamed Rows.fnFilterLastMemberCaseTableRow.func = some 4 := by kernel_rfl
theorem params : Tryz.f4.params.toList = [3, 3, 4, 9, 3, 4] := by kernel_rfl
theorem resTypes : Tryz.f4.resultTypes.toList = [4] := by kernel_rfl
theorem ltBool : 4 < Tryz.checked.prog.types.size := of_decide_eq_true (by kernel_rfl)
theorem flat3 : Closed.Flat Tryz.checked.prog 3 := Closed.flat_int Tryz.underlying3
theorem flat4 : Closed.Flat Tryz.checked.prog 4 := Closed.flat_bool Tryz.underlying4
theorem flat9 : Closed.Flat Tryz.checked.prog 9 := Closed.flat_string Tryz.underlying9
theorem inPl : Rows.fnFilterLastMemberCaseTableRow.inPlace = Tryz.checked.prog.inPlace 4 := eq_of_beq (by kernel_rfl)
theorem unf : Rows.fnFilterLastMemberCaseTableRow.unfollowed = Tryz.checked.prog.unfollowed 4 := by kernel_rfl
theorem recu : Rows.fnFilterLastMemberCaseTableRow.recurses = Tryz.checked.prog.recurses 4 := by kernel_rfl
theorem nam : Rows.fnFilterLastMemberCaseTableRow.named = Tryz.checked.prog.varsNamed 4 := by kernel_rfl
theorem mout : Tryz.checked.prog.mapsAmong Tryz.f4.resultTypes.toList = false := by kernel_rfl
theorem closed : joinedFacts Tryz.checked.prog 4 Tryz.f4 Rows.fnFilterLastMemberCaseTableSpec Rows.fnFilterLastMemberCaseTableRow = true :=
  Closed.closed_of Facts.three.1 Facts.three.2.1 Facts.three.2.2 Facts.heard Facts.enter Facts.lifts Facts.stops Facts.knobs Facts.made wf rfl plainRow
    (by rw [params]; intro t ht; simp only [List.mem_cons, List.not_mem_nil, or_false] at ht; rcases ht with rfl | rfl | rfl | rfl | rfl | rfl <;> first | exact flat3 | exact flat4 | exact flat9)
    (by rw [resTypes]; intro t ht; simp only [List.mem_cons, List.not_mem_nil, or_false] at ht; subst ht; exact ⟨flat4, ltBool⟩)
    inPl unf recu nam rfl mout

theorem walk (a0 : Int) (a1 : Int) (a2 : Bool) (a3 : ByteArray) (a4 : Int) (a5 : Bool) (w : World) (w0 : (Lit.int .i64 a0).wf = true) (w1 : (Lit.int .i64 a1).wf = true) (w3 : a3.size ≤ maxLen) (w4 : (Lit.int .i64 a4).wf = true) :
    Calls Tryz.prog 4 #[.int .i64 a0, .int .i64 a1, .bool a2, .string a3, .int .i64 a4, .bool a5] w fun e w' => e = .returned (.bool true) ∧ Below w.heap.size w w' :=
  lawMem a0 a1 a2 a3 a4 a5 w w3

set_option maxRecDepth 100000 in
theorem lifted (os : Os) (started : os.Started) (H : Type) (enc : TypeId × Value → H) :
    ReturnsInHanded {} Tryz.checked os 4 .any (Rows.fnFilterLastMemberCaseTableSpec.pre6 enc Tryz.prog Tryz.f4 Rows.fnFilterLastMemberCaseTableRow.domain false) (Rows.fnFilterLastMemberCaseTableSpec.post enc Tryz.prog Tryz.f4 false true false false) := by
  refine returnsInHanded_of_change (C := Tryz.checked) own started (by kernel_rfl) Tryz.func4
    (ChangeSpec.witness6 (enc := enc) (C := Tryz.checked) false ⟨#[], #[.int .i64 0, .int .i64 0, .bool false, .string ByteArray.empty, .int .i64 0, .bool false], []⟩ 8 (by kernel_rfl) (by kernel_rfl) (by kernel_rfl) (by kernel_rfl)) ?_
  intro W base args ds gs before hval0 hW hcnd _
  have hval : ∀ (j : Nat) t v, Tryz.f4.params[j]? = some t → args[j]? = some v → Value.okWide Tryz.prog W .any base t v := hval0
  have hW' := hW
  obtain ⟨p, q, hA0, hV, rfl, hfz, hnd⟩ := hW
  have hA : DataW.TrodAll enc Tryz.prog W 0 (fun _ => true) true Tryz.f4.params.toList args.toList ds p := hA0
  rw [Tryz.params4] at hA hval
  obtain ⟨v0, vs0, d0, ds0, p0, q0, hargs, rfl, rfl, h0, r0⟩ := trodAll_cons hA
  obtain ⟨v1, vs1, d1, ds1, p1, q1, rfl, rfl, rfl, h1, r1⟩ := trodAll_cons r0
  obtain ⟨v2, vs2, d2, ds2, p2, q2, rfl, rfl, rfl, h2, r2⟩ := trodAll_cons r1
  obtain ⟨v3, vs3, d3, ds3, p3, q3, rfl, rfl, rfl, h3, r3⟩ := trodAll_cons r2
  obtain ⟨v4, vs4, d4, ds4, p4, q4, rfl, rfl, rfl, h4, r4⟩ := trodAll_cons r3
  obtain ⟨v5, vs5, d5, ds5, p5, q5, rfl, rfl, rfl, h5, r5⟩ := trodAll_cons r4
  obtain ⟨rfl, rfl, rfl⟩ := trodAll_nil r5
  obtain rfl : args = #[v0, v1, v2, v3, v4, v5] := by cases args; simp_all
  obtain ⟨rfl, rfl⟩ := trodVars_none hV
  obtain ⟨a0, rfl, rfl, rfl, w0⟩ := open_int Tryz.underlying3 (hval 0 3 v0 rfl rfl) h0
  obtain ⟨a1, rfl, rfl, rfl, w1⟩ := open_int Tryz.underlying3 (hval 1 3 v1 rfl rfl) h1
  obtain ⟨a2, rfl, rfl, rfl⟩ := open_bool Tryz.underlying4 (hval 2 4 v2 rfl rfl) h2
  obtain ⟨a3, rfl, rfl, rfl, w3⟩ := open_string Tryz.underlying9 (hval 3 9 v3 rfl rfl) h3
  obtain ⟨a4, rfl, rfl, rfl, w4⟩ := open_int Tryz.underlying3 (hval 4 3 v4 rfl rfl) h4
  obtain ⟨a5, rfl, rfl, rfl⟩ := open_bool Tryz.underlying4 (hval 5 4 v5 rfl rfl) h5
  clear hA0 hval0
  refine (walk a0 a1 a2 a3 a4 a5 W w0 w1 w3 w4).mono fun e W' ⟨he, hg⟩ => ?_
  subst he
  exact ⟨_, rfl, _, _, _, [], _, [], hW', trodAll_mk1 (shut_bool Tryz.underlying4 _), (trodAll_cons_mk (shut_int Tryz.underlying3 w0) (trodAll_cons_mk (shut_int Tryz.underlying3 w1) (trodAll_cons_mk (shut_bool Tryz.underlying4 _) (trodAll_cons_mk (shut_string Tryz.underlying9 w3) (trodAll_cons_mk (shut_int Tryz.underlying3 w4) (trodAll_cons_mk (shut_bool Tryz.underlying4 _) trodAll_mk0)))))), rfl, hg.frame _, fun h => by cases h⟩

theorem over : Rows.fnFilterLastMemberCaseTableRow.holds Tryz.pinned (OpenSpec.ofChange Rows.fnFilterLastMemberCaseTableSpec) :=
  OpenClaim.holds_of_wide 4 Tryz.f4 rfl rfl rfl rfl rfl rfl rfl ⟨rfl, rfl, rfl, rfl, rfl⟩ rfl rfl rfl rfl rfl called Tryz.func4 closed
    (of_decide_eq_true (by kernel_rfl)) (by unfold Func.isWrapper; first | (rw [if_pos (by decide +kernel)]; kernel_rfl) | (rw [if_neg (by decide +kernel)]; exact ⟨rfl, rfl⟩))
    (fun os started H enc _ => lifted os started H enc)

theorem proved : Rows.FnFilterLastMemberCaseTableSaid := over
#print axioms proved
end Go.Proofs.YtglhhfeaopjinaaGreat.fnFilterLastMemberCaseTable

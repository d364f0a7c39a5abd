/-
  PROVED: at every input the Go function FnFilterFirstIdempotent returns true, and each argument reads afterwards as it read before: the statement Rows.FnFilterFirstIdempotentSaid. No condition.
-/
import Derived.Test.YtgpbhigjmkkofaaGreatFacts
import Derived.Test.YtgpbhigjmkkofaaGreatClosed
import Derived.Test.YtgpbhigjmkkofaaGreatOpen
import Derived.Test.YtgpbhigjmkkofaaGreatFirstM
import Derived.WalkKit
import Derived.ProofKit
import Derived.OpenShut
import Derived.ShutString
import Derived.ChangeOld
import Derived.Below
namespace Go.Proofs.YtgpbhigjmkkofaaGreat.fnFilterFirstIdempotent
open Go.ChangeShapes Go.WideShapes Go.ChangeAt Go.RowKit
open Go.ChangeMaps (open_string shut_string)
set_option linter.unusedVariables false

theorem own : ownKnob Tryz.prog.godebug = none := by kernel_rfl
theorem wf : Rows.fnFilterFirstIdempotentRow.wf (OpenSpec.ofChange Rows.fnFilterFirstIdempotentSpec) = true := by kernel_rfl
theorem plainRow : Closed.PlainRow Rows.fnFilterFirstIdempotentRow = true := by kernel_rfl
theorem called : Tryz.checked.prog.funcNamed Rows.fnFilterFirstIdempotentRow.func = some 6 := by kernel_rfl
theorem params : Tryz.f6.params.toList = [3, 9, 3, 3, 3, 4, 3, 9, 3, 4] := by kernel_rfl
theorem resTypes : Tryz.f6.resultTypes.toList = [4] := by kernel_rfl
theorem ltBool : 4 < Tryz.checked.prog.types.size := of_decide_eq_true (by kernel_rfl)
theorem flat3 : Closed.Flat Tryz.checked.prog 3 := Closed.flat_int Tryz.underlying3
theorem flat9 : Closed.Flat Tryz.checked.prog 9 := Closed.flat_string Tryz.underlying9
theorem flat4 : Closed.Flat Tryz.checked.prog 4 := Closed.flat_bool Tryz.underlying4
theorem inPl : Rows.fnFilterFirstIdempotentRow.inPlace = Tryz.checked.prog.inPlace 6 := eq_of_beq (by kernel_rfl)
theorem unf : Rows.fnFilterFirstIdempotentRow.unfollowed = Tryz.checked.prog.unfollowed 6 := by kernel_rfl
theorem recu : Rows.fnFilterFirstIdempotentRow.recurses = Tryz.checked.prog.recurses 6 := by kernel_rfl
theorem nam : Rows.fnFilterFirstIdempotentRow.named = Tryz.checked.prog.varsNamed 6 := by kernel_rfl
theorem mout : Tryz.checked.prog.mapsAmong Tryz.f6.resultTypes.toList = false := by kernel_rfl
theorem closed : joinedFacts Tryz.checked.prog 6 Tryz.f6 Rows.fnFilterFirstIdempotentSpec Rows.fnFilterFirstIdempotentRow = true :=
  Closed.closed_of Facts.three.1 Facts.three.2.1 Facts.three.2.2 Facts.heard Facts.enter Facts.lifts Facts.stops Facts.knobs Facts.made wf rfl plainRow
    (by rw [params]; intro t ht; simp only [List.mem_cons, List.not_mem_nil, or_false] at ht; rcases ht with rfl | rfl | rfl | rfl | rfl | rfl | rfl | rfl | rfl | rfl <;> first | exact flat3 | exact flat9 | exact flat4)
    (by rw [resTypes]; intro t ht; simp only [List.mem_cons, List.not_mem_nil, or_false] at ht; subst ht; exact ⟨flat4, ltBool⟩)
    inPl unf recu nam rfl mout

theorem walk (a0 : Int) (a1 : ByteArray) (a2 : Int) (a3 : Int) (a4 : Int) (a5 : Bool) (a6 : Int) (a7 : ByteArray) (a8 : Int) (a9 : Bool) (w : World) (w0 : (Lit.int .i64 a0).wf = true) (w1 : a1.size ≤ maxLen) (w2 : (Lit.int .i64 a2).wf = true) (w3 : (Lit.int .i64 a3).wf = true) (w4 : (Lit.int .i64 a4).wf = true) (w6 : (Lit.int .i64 a6).wf = true) (w7 : a7.size ≤ maxLen) (w8 : (Lit.int .i64 a8).wf = true) :
    Calls Tryz.prog 6 #[.int .i64 a0, .string a1, .int .i64 a2, .int .i64 a3, .int .i64 a4, .bool a5, .int .i64 a6, .string a7, .int .i64 a8, .bool a9] w fun e w' => e = .returned (.bool true) ∧ Below w.heap.size w w' :=
  law6 a0 a1 a2 a3 a4 a5 a6 a7 a8 a9 w w1 w7

set_option maxRecDepth 100000 in
theorem lifted (os : Os) (started : os.Started) (H : Type) (enc : TypeId × Value → H) :
    ReturnsInHanded {} Tryz.checked os 6 .any (Rows.fnFilterFirstIdempotentSpec.pre6 enc Tryz.prog Tryz.f6 Rows.fnFilterFirstIdempotentRow.domain false) (Rows.fnFilterFirstIdempotentSpec.post enc Tryz.prog Tryz.f6 false true false false) := by
  refine returnsInHanded_of_change (C := Tryz.checked) own started (by kernel_rfl) Tryz.func6
    (ChangeSpec.witness6 (enc := enc) (C := Tryz.checked) false ⟨#[], #[.int .i64 0, .string ByteArray.empty, .int .i64 0, .int .i64 0, .int .i64 0, .bool false, .int .i64 0, .string ByteArray.empty, .int .i64 0, .bool false], []⟩ 8 (by kernel_rfl) (by kernel_rfl) (by kernel_rfl) (by kernel_rfl)) ?_
  intro W base args ds gs before hval0 hW hcnd _
  have hval : ∀ (j : Nat) t v, Tryz.f6.params[j]? = some t → args[j]? = some v → Value.okWide Tryz.prog W .any base t v := hval0
  have hW' := hW
  obtain ⟨p, q, hA0, hV, rfl, hfz, hnd⟩ := hW
  have hA : DataW.TrodAll enc Tryz.prog W 0 (fun _ => true) true Tryz.f6.params.toList args.toList ds p := hA0
  rw [Tryz.params6] at hA hval
  obtain ⟨v0, vs0, d0, ds0, p0, q0, hargs, rfl, rfl, h0, r0⟩ := trodAll_cons hA
  obtain ⟨v1, vs1, d1, ds1, p1, q1, rfl, rfl, rfl, h1, r1⟩ := trodAll_cons r0
  obtain ⟨v2, vs2, d2, ds2, p2, q2, rfl, rfl, rfl, h2, r2⟩ := trodAll_cons r1
  obtain ⟨v3, vs3, d3, ds3, p3, q3, rfl, rfl, rfl, h3, r3⟩ := trodAll_cons r2
  obtain ⟨v4, vs4, d4, ds4, p4, q4, rfl, rfl, rfl, h4, r4⟩ := trodAll_cons r3
  obtain ⟨v5, vs5, d5, ds5, p5, q5, rfl, rfl, rfl, h5, r5⟩ := trodAll_cons r4
  obtain ⟨v6, vs6, d6, ds6, p6, q6, rfl, rfl, rfl, h6, r6⟩ := trodAll_cons r5
  obtain ⟨v7, vs7, d7, ds7, p7, q7, rfl, rfl, rfl, h7, r7⟩ := trodAll_cons r6
  obtain ⟨v8, vs8, d8, ds8, p8, q8, rfl, rfl, rfl, h8, r8⟩ := trodAll_cons r7
  obtain ⟨v9, vs9, d9, ds9, p9, q9, rfl, rfl, rfl, h9, r9⟩ := trodAll_cons r8
  obtain ⟨rfl, rfl, rfl⟩ := trodAll_nil r9
  obtain rfl : args = #[v0, v1, v2, v3, v4, v5, v6, v7, v8, v9] := by cases args; simp_all
  obtain ⟨rfl, rfl⟩ := trodVars_none hV
  obtain ⟨a0, rfl, rfl, rfl, w0⟩ := open_int Tryz.underlying3 (hval 0 3 v0 rfl rfl) h0
  obtain ⟨a1, rfl, rfl, rfl, w1⟩ := open_string Tryz.underlying9 (hval 1 9 v1 rfl rfl) h1
  obtain ⟨a2, rfl, rfl, rfl, w2⟩ := open_int Tryz.underlying3 (hval 2 3 v2 rfl rfl) h2
  obtain ⟨a3, rfl, rfl, rfl, w3⟩ := open_int Tryz.underlying3 (hval 3 3 v3 rfl rfl) h3
  obtain ⟨a4, rfl, rfl, rfl, w4⟩ := open_int Tryz.underlying3 (hval 4 3 v4 rfl rfl) h4
  obtain ⟨a5, rfl, rfl, rfl⟩ := open_bool Tryz.underlying4 (hval 5 4 v5 rfl rfl) h5
  obtain ⟨a6, rfl, rfl, rfl, w6⟩ := open_int Tryz.underlying3 (hval 6 3 v6 rfl rfl) h6
  obtain ⟨a7, rfl, rfl, rfl, w7⟩ := open_string Tryz.underlying9 (hval 7 9 v7 rfl rfl) h7
  obtain ⟨a8, rfl, rfl, rfl, w8⟩ := open_int Tryz.underlying3 (hval 8 3 v8 rfl rfl) h8
  obtain ⟨a9, rfl, rfl, rfl⟩ := open_bool Tryz.underlying4 (hval 9 4 v9 rfl rfl) h9
  clear hA0 hval0
  refine (walk a0 a1 a2 a3 a4 a5 a6 a7 a8 a9 W w0 w1 w2 w3 w4 w6 w7 w8).mono fun e W' ⟨he, hg⟩ => ?_
  subst he
  exact ⟨_, rfl, _, _, _, [], _, [], hW', trodAll_mk1 (shut_bool Tryz.underlying4 _), (trodAll_cons_mk (shut_int Tryz.underlying3 w0) (trodAll_cons_mk (shut_string Tryz.underlying9 w1) (trodAll_cons_mk (shut_int Tryz.underlying3 w2) (trodAll_cons_mk (shut_int Tryz.underlying3 w3) (trodAll_cons_mk (shut_int Tryz.underlying3 w4) (trodAll_cons_mk (shut_bool Tryz.underlying4 _) (trodAll_cons_mk (shut_int Tryz.underlying3 w6) (trodAll_cons_mk (shut_string Tryz.underlying9 w7) (trodAll_cons_mk (shut_int Tryz.underlying3 w8) (trodAll_cons_mk (shut_bool Tryz.underlying4 _) trodAll_mk0)))))))))), rfl, hg.frame _, fun h => by cases h⟩

theorem over : Rows.fnFilterFirstIdempotentRow.holds Tryz.pinned (OpenSpec.ofChange Rows.fnFilterFirstIdempotentSpec) :=
  OpenClaim.holds_of_wide 6 Tryz.f6 rfl rfl rfl rfl rfl rfl rfl ⟨rfl, rfl, rfl, rfl, rfl⟩ rfl rfl rfl rfl rfl called Tryz.func6 closed
    (of_decide_eq_true (by kernel_rfl)) (by unfold Func.isWrapper; first | (rw [if_pos (by decide +kernel)]; kernel_rfl) | (rw [if_neg (by decide +kernel)]; exact ⟨rfl, rfl⟩))
    (fun os started H enc _ => lifted os started H enc)

theorem proved : Rows.FnFilterFirstIdempotentSaid := over
#print axioms proved
end Go.Proofs.YtgpbhigjmkkofaaGreat.fnFilterFirstIdempotent

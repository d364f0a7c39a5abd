/-
  PROVED: at every input the Go function FnCountAnyRewriteKeepsMeaning returns true, and each argument reads afterwards as it read before: the statement Rows.FnCountAnyRewriteKeepsMeaningSaid. No condition.
-/
import Derived.Test.YtgpbhigjmkkofaaGreatFacts
import Derived.Test.YtgpbhigjmkkofaaGreatClosed
import Derived.Test.YtgpbhigjmkkofaaGreatOpen
import Derived.Test.YtgpbhigjmkkofaaGreatCountE
import Derived.WalkKit
import Derived.ProofKit
import Derived.OpenShut
import Derived.ShutString
import Derived.ChangeOld
import Derived.Below
namespace Go.Proofs.YtgpbhigjmkkofaaGreat.fnCountAnyRewriteKeepsMeaning
open Go.ChangeShapes Go.WideShapes Go.ChangeAt Go.RowKit
open Go.ChangeMaps (open_string shut_string)
set_option linter.unusedVariables false

theorem own : ownKnob Tryz.prog.godebug = none := by kernel_rfl
theorem wf : Rows.fnCountAnyRewriteKeepsMeaningRow.wf (OpenSpec.ofChange Rows.fnCountAnyRewriteKeepsMeaningSpec) = true := by kernel_rfl
theorem plainRow : Closed.PlainRow Rows.fnCountAnyRewriteKeepsMeaningRow = true := by kernel_rfl
theorem called : Tryz.checked.prog.funcNamed Rows.fnCountAnyRewriteKeepsMeaningRow.func = some 4 := by kernel_rfl
theorem params : Tryz.f4.params.toList = [9, 3, 74] := by kernel_rfl
theorem resTypes : Tryz.f4.resultTypes.toList = [4] := by kernel_rfl
theorem ltBool : 4 < Tryz.checked.prog.types.size := of_decide_eq_true (by kernel_rfl)
theorem flat9 : Closed.Flat Tryz.checked.prog 9 := Closed.flat_string Tryz.underlying9
theorem flat3 : Closed.Flat Tryz.checked.prog 3 := Closed.flat_int Tryz.underlying3
theorem flat74 : Closed.Flat Tryz.checked.prog 74 := Closed.flat_slice (of_decide_eq_true (by kernel_rfl)) Tryz.underlying74 (by kernel_rfl) rfl (.inr (.inl Tryz.underlying4))
theorem flat4 : Closed.Flat Tryz.checked.prog 4 := Closed.flat_bool Tryz.underlying4
theorem inPl : Rows.fnCountAnyRewriteKeepsMeaningRow.inPlace = Tryz.checked.prog.inPlace 4 := eq_of_beq (by kernel_rfl)
theorem unf : Rows.fnCountAnyRewriteKeepsMeaningRow.unfollowed = Tryz.checked.prog.unfollowed 4 := by kernel_rfl
theorem recu : Rows.fnCountAnyRewriteKeepsMeaningRow.recurses = Tryz.checked.prog.recurses 4 := by kernel_rfl
theorem nam : Rows.fnCountAnyRewriteKeepsMeaningRow.named = Tryz.checked.prog.varsNamed 4 := by kernel_rfl
theorem mout : Tryz.checked.prog.mapsAmong Tryz.f4.resultTypes.toList = false := by kernel_rfl
theorem closed : joinedFacts Tryz.checked.prog 4 Tryz.f4 Rows.fnCountAnyRewriteKeepsMeaningSpec Rows.fnCountAnyRewriteKeepsMeaningRow = true :=
  Closed.closed_of Facts.three.1 Facts.three.2.1 Facts.three.2.2 Facts.heard Facts.enter Facts.lifts Facts.stops Facts.knobs Facts.made wf rfl plainRow
    (by rw [params]; intro t ht; simp only [List.mem_cons, List.not_mem_nil, or_false] at ht; rcases ht with rfl | rfl | rfl <;> first | exact flat9 | exact flat3 | exact flat74 | exact flat4)
    (by rw [resTypes]; intro t ht; simp only [List.mem_cons, List.not_mem_nil, or_false] at ht; subst ht; exact ⟨flat4, ltBool⟩)
    inPl unf recu nam rfl mout

theorem walk (a0 : ByteArray) (a1 : Int) (a2 : Option Addr) (l2 c2 : Nat) (z2 : Nat → Bool) (w : World) (w0 : a0.size ≤ maxLen) (w1 : (Lit.int .i64 a1).wf = true) (w2 : IsRowOf (fun x => .bool x) (fun _ => True) w a2 l2 c2 z2) :
    Calls Tryz.prog 4 #[.string a0, .int .i64 a1, .slice a2 l2 c2] w fun e w' => e = .returned (.bool true) ∧ Below w.heap.size w w' :=
  law4 a0 a1 a2 l2 c2 z2 w w0 w2

set_option maxRecDepth 100000 in
theorem lifted (os : Os) (started : os.Started) (H : Type) (enc : TypeId × Value → H) :
    ReturnsInHanded {} Tryz.checked os 4 .any (Rows.fnCountAnyRewriteKeepsMeaningSpec.pre6 enc Tryz.prog Tryz.f4 Rows.fnCountAnyRewriteKeepsMeaningRow.domain false) (Rows.fnCountAnyRewriteKeepsMeaningSpec.post enc Tryz.prog Tryz.f4 false true false false) := by
  refine returnsInHanded_of_change (C := Tryz.checked) own started (by kernel_rfl) Tryz.func4
    (ChangeSpec.witness6 (enc := enc) (C := Tryz.checked) false ⟨#[], #[.string ByteArray.empty, .int .i64 0, .slice none 0 0], []⟩ 8 (by kernel_rfl) (by kernel_rfl) (by kernel_rfl) (by kernel_rfl)) ?_
  intro W base args ds gs before hval0 hW hcnd _
  have hval : ∀ (j : Nat) t v, Tryz.f4.params[j]? = some t → args[j]? = some v → Value.okWide Tryz.prog W .any base t v := hval0
  have hW' := hW
  obtain ⟨p, q, hA0, hV, rfl, hfz, hnd⟩ := hW
  have hA : DataW.TrodAll enc Tryz.prog W 0 (fun _ => true) true Tryz.f4.params.toList args.toList ds p := hA0
  rw [Tryz.params4] at hA hval
  obtain ⟨v0, vs0, d0, ds0, p0, q0, hargs, rfl, rfl, h0, r0⟩ := trodAll_cons hA
  obtain ⟨v1, vs1, d1, ds1, p1, q1, rfl, rfl, rfl, h1, r1⟩ := trodAll_cons r0
  obtain ⟨v2, vs2, d2, ds2, p2, q2, rfl, rfl, rfl, h2, r2⟩ := trodAll_cons r1
  obtain ⟨rfl, rfl, rfl⟩ := trodAll_nil r2
  obtain rfl : args = #[v0, v1, v2] := by cases args; simp_all
  obtain ⟨rfl, rfl⟩ := trodVars_none hV
  obtain ⟨a0, rfl, rfl, rfl, w0⟩ := open_string Tryz.underlying9 (hval 0 9 v0 rfl rfl) h0
  obtain ⟨a1, rfl, rfl, rfl, w1⟩ := open_int Tryz.underlying3 (hval 1 3 v1 rfl rfl) h1
  obtain ⟨a2, l2, c2, rfl⟩ := okWide_slice Tryz.underlying74 (hval 2 74 v2 rfl rfl)
  have k2 := h2
  have lt2 : ∀ x ∈ p2, x.block < W.heap.size := by obtain ⟨m, hm⟩ := k2; exact DataW.trod_lt m _ _ _ hm
  obtain ⟨z2, w2⟩ := open_bools Tryz.underlying74 Tryz.underlying4 (by kernel_rfl) h2
  clear hA0 hval0
  refine (walk a0 a1 a2 l2 c2 z2 W w0 w1 w2).mono fun e W' ⟨he, hg⟩ => ?_
  subst he
  exact ⟨_, rfl, _, _, _, [], _, [], hW', trodAll_mk1 (shut_bool Tryz.underlying4 _), (trodAll_cons_mk (shut_string Tryz.underlying9 w0) (trodAll_cons_mk (shut_int Tryz.underlying3 w1) (trodAll_cons_mk (Below.trod Facts.three.1 (by kernel_rfl) (of_decide_eq_true (by kernel_rfl)) k2 hg lt2) trodAll_mk0))), rfl, hg.frame _, fun h => by cases h⟩

theorem over : Rows.fnCountAnyRewriteKeepsMeaningRow.holds Tryz.pinned (OpenSpec.ofChange Rows.fnCountAnyRewriteKeepsMeaningSpec) :=
  OpenClaim.holds_of_wide 4 Tryz.f4 rfl rfl rfl rfl rfl rfl rfl ⟨rfl, rfl, rfl, rfl, rfl⟩ rfl rfl rfl rfl rfl called Tryz.func4 closed
    (of_decide_eq_true (by kernel_rfl)) (by unfold Func.isWrapper; first | (rw [if_pos (by decide +kernel)]; kernel_rfl) | (rw [if_neg (by decide +kernel)]; exact ⟨rfl, rfl⟩))
    (fun os started H enc _ => lifted os started H enc)

theorem proved : Rows.FnCountAnyRewriteKeepsMeaningSaid := over
#print axioms proved
end Go.Proofs.YtgpbhigjmkkofaaGreat.fnCountAnyRewriteKeepsMeaning

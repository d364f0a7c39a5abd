/-
  PROVED: at every input the Go function FnFloatifyIdempotent returns true, and each argument reads afterwards as it read before: the statement Rows.FnFloatifyIdempotentSaid. No condition.
-/
import Derived.Test.YtpjbeenakkfcfaaGreatFacts
import Derived.Test.YtpjbeenakkfcfaaGreatClosed
import Derived.Test.YtpjbeenakkfcfaaGreatOpen
import Derived.Test.YtpjbeenakkfcfaaGreatFloS
import Derived.WalkKit
import Derived.ProofKit
import Derived.OpenShut
import Derived.ShutString
import Derived.ChangeOld
import Derived.Below
namespace Go.Proofs.YtpjbeenakkfcfaaGreat.fnFloatifyIdempotent
open Go.ChangeShapes Go.WideShapes Go.ChangeAt Go.RowKit
open Go.ChangeMaps (open_string shut_string)
set_option linter.unusedVariables false

theorem own : ownKnob Tryz.prog.godebug = none := by kernel_rfl
theorem wf : Rows.fnFloatifyIdempotentRow.wf (OpenSpec.ofChange Rows.fnFloatifyIdempotentSpec) = true := by kernel_rfl
theorem plainRow : Closed.PlainRow Rows.fnFloatifyIdempotentRow = true := by kernel_rfl
theorem called : Tryz.checked.prog.funcNamed Rows.fnFloatifyIdempotentRow.func = some 4 := by kernel_rfl
theorem params : Tryz.f4.params.toList = [35, 36] := by kernel_rfl
theorem resTypes : Tryz.f4.resultTypes.toList = [4] := by kernel_rfl
theorem ltBool : 4 < Tryz.checked.prog.types.size := of_decide_eq_true (by kernel_rfl)
theorem flat35 : Closed.Flat Tryz.checked.prog 35 := Closed.flat_slice (of_decide_eq_true (by kernel_rfl)) Tryz.underlying35 (by kernel_rfl) rfl (.inl ⟨_, Tryz.underlying5⟩)
theorem flat36 : Closed.Flat Tryz.checked.prog 36 := Closed.flat_slice (of_decide_eq_true (by kernel_rfl)) Tryz.underlying36 (by kernel_rfl) rfl (.inl ⟨_, Tryz.underlying3⟩)
theorem flat4 : Closed.Flat Tryz.checked.prog 4 := Closed.flat_bool Tryz.underlying4
theorem inPl : Rows.fnFloatifyIdempotentRow.inPlace = Tryz.checked.prog.inPlace 4 := eq_of_beq (by kernel_rfl)
theorem unf : Rows.fnFloatifyIdempotentRow.unfollowed = Tryz.checked.prog.unfollowed 4 := by kernel_rfl
theorem recu : Rows.fnFloatifyIdempotentRow.recurses = Tryz.checked.prog.recurses 4 := by kernel_rfl
theorem nam : Rows.fnFloatifyIdempotentRow.named = Tryz.checked.prog.varsNamed 4 := by kernel_rfl
theorem mout : Tryz.checked.prog.mapsAmong Tryz.f4.resultTypes.toList = false := by kernel_rfl
theorem closed : joinedFacts Tryz.checked.prog 4 Tryz.f4 Rows.fnFloatifyIdempotentSpec Rows.fnFloatifyIdempotentRow = true :=
  Closed.closed_of Facts.three.1 Facts.three.2.1 Facts.three.2.2 Facts.heard Facts.enter Facts.lifts Facts.stops Facts.knobs Facts.made wf rfl plainRow
    (by rw [params]; intro t ht; simp only [List.mem_cons, List.not_mem_nil, or_false] at ht; rcases ht with rfl | rfl <;> first | exact flat35 | exact flat36 | exact flat4)
    (by rw [resTypes]; intro t ht; simp only [List.mem_cons, List.not_mem_nil, or_false] at ht; subst ht; exact ⟨flat4, ltBool⟩)
    inPl unf recu nam rfl mout

theorem walk (a0 : Option Addr) (l0 c0 : Nat) (z0 : Nat → Int) (a1 : Option Addr) (l1 c1 : Nat) (z1 : Nat → Int) (w : World) (w0 : IsRowOf (fun x => .int .u8 x) (fun x => (Lit.int .u8 x).wf = true) w a0 l0 c0 z0) (w1 : IsRowOf (fun x => .int .i64 x) (fun x => (Lit.int .i64 x).wf = true) w a1 l1 c1 z1) :
    Calls Tryz.prog 4 #[.slice a0 l0 c0, .slice a1 l1 c1] w fun e w' => e = .returned (.bool true) ∧ Below w.heap.size w w' :=
  lawI a0 l0 c0 z0 a1 l1 c1 z1 w w0 w1

set_option maxRecDepth 100000 in
theorem lifted (os : Os) (started : os.Started) (H : Type) (enc : TypeId × Value → H) :
    ReturnsInHanded {} Tryz.checked os 4 .any (Rows.fnFloatifyIdempotentSpec.pre6 enc Tryz.prog Tryz.f4 Rows.fnFloatifyIdempotentRow.domain false) (Rows.fnFloatifyIdempotentSpec.post enc Tryz.prog Tryz.f4 false true false false) := by
  refine returnsInHanded_of_change (C := Tryz.checked) own started (by kernel_rfl) Tryz.func4
    (ChangeSpec.witness6 (enc := enc) (C := Tryz.checked) false ⟨#[], #[.slice none 0 0, .slice none 0 0], []⟩ 8 (by kernel_rfl) (by kernel_rfl) (by kernel_rfl) (by kernel_rfl)) ?_
  intro W base args ds gs before hval0 hW hcnd _
  have hval : ∀ (j : Nat) t v, Tryz.f4.params[j]? = some t → args[j]? = some v → Value.okWide Tryz.prog W .any base t v := hval0
  have hW' := hW
  obtain ⟨p, q, hA0, hV, rfl, hfz, hnd⟩ := hW
  have hA : DataW.TrodAll enc Tryz.prog W 0 (fun _ => true) true Tryz.f4.params.toList args.toList ds p := hA0
  rw [Tryz.params4] at hA hval
  obtain ⟨v0, vs0, d0, ds0, p0, q0, hargs, rfl, rfl, h0, r0⟩ := trodAll_cons hA
  obtain ⟨v1, vs1, d1, ds1, p1, q1, rfl, rfl, rfl, h1, r1⟩ := trodAll_cons r0
  obtain ⟨rfl, rfl, rfl⟩ := trodAll_nil r1
  obtain rfl : args = #[v0, v1] := by cases args; simp_all
  obtain ⟨rfl, rfl⟩ := trodVars_none hV
  obtain ⟨a0, l0, c0, rfl⟩ := okWide_slice Tryz.underlying35 (hval 0 35 v0 rfl rfl)
  have k0 := h0
  have lt0 : ∀ x ∈ p0, x.block < W.heap.size := by obtain ⟨m, hm⟩ := k0; exact DataW.trod_lt m _ _ _ hm
  obtain ⟨z0, w0⟩ := open_intsOf Tryz.underlying35 Tryz.underlying5 (by kernel_rfl) h0
  obtain ⟨a1, l1, c1, rfl⟩ := okWide_slice Tryz.underlying36 (hval 1 36 v1 rfl rfl)
  have k1 := h1
  have lt1 : ∀ x ∈ p1, x.block < W.heap.size := by obtain ⟨m, hm⟩ := k1; exact DataW.trod_lt m _ _ _ hm
  obtain ⟨z1, w1⟩ := open_intsOf Tryz.underlying36 Tryz.underlying3 (by kernel_rfl) h1
  clear hA0 hval0
  refine (walk a0 l0 c0 z0 a1 l1 c1 z1 W w0 w1).mono fun e W' ⟨he, hg⟩ => ?_
  subst he
  exact ⟨_, rfl, _, _, _, [], _, [], hW', trodAll_mk1 (shut_bool Tryz.underlying4 _), (trodAll_cons_mk (Below.trod Facts.three.1 (by kernel_rfl) (of_decide_eq_true (by kernel_rfl)) k0 hg lt0) (trodAll_cons_mk (Below.trod Facts.three.1 (by kernel_rfl) (of_decide_eq_true (by kernel_rfl)) k1 hg lt1) trodAll_mk0)), rfl, hg.frame _, fun h => by cases h⟩

theorem over : Rows.fnFloatifyIdempotentRow.holds Tryz.pinned (OpenSpec.ofChange Rows.fnFloatifyIdempotentSpec) :=
  OpenClaim.holds_of_wide 4 Tryz.f4 rfl rfl rfl rfl rfl rfl rfl ⟨rfl, rfl, rfl, rfl, rfl⟩ rfl rfl rfl rfl rfl called Tryz.func4 closed
    (of_decide_eq_true (by kernel_rfl)) (by unfold Func.isWrapper; first | (rw [if_pos (by decide +kernel)]; kernel_rfl) | (rw [if_neg (by decide +kernel)]; exact ⟨rfl, rfl⟩))
    (fun os started H enc _ => lifted os started H enc)

theorem proved : Rows.FnFloatifyIdempotentSaid := over
#print axioms proved
end Go.Proofs.YtpjbeenakkfcfaaGreat.fnFloatifyIdempotent

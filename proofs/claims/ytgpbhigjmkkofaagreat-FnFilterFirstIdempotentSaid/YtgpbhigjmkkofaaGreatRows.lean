/-
  No cell of these rows narrows 'for every input' (looked for: loops, veiled, ifaces, maps, wideKeys, modest, calm, conditions, laid).
  DERIVED. THE GIVEN ROWS OF THIS SEAT. 5 by the template 'for every input the law returns true; each argument reads behind the call as it read before'; 0 by the template 'total and deterministic' (their statements: YtgpbhigjmkkofaaGreatTotals.lean).
  GIVEN WITH THE SEED: the statements are not yours to turn. If you find one false, say at which input.
  Laid BY PROGRAM, IN A SANDBOX (cutbox-rows.mjs): the forced cells as the released guide's own fill.sh prints them over the translation 7285ec2fdb64d1af… (all of the seat's roots in one cut). By AI agents, Wed Nov 11 2026. No macro, syntax, notation, axiom, sorry.
-/
import Derived.Test.YtgpbhigjmkkofaaGreatChecked
import GoSem.Claim
import GoSem.ClaimJoined
import GoSem.ClaimMapViews
import Derived.JoinedTies
import Derived.KernelRfl
namespace Go.Proofs.YtgpbhigjmkkofaaGreat
/- THE CELL 'sum', in the pinned program and in every row, IS THE sha256 OF THE DUMP (.gsa) THAT YtgpbhigjmkkofaaGreatProg.lean LOADS. Nothing in Lean hashes anything: it is a label: what it is worth is what the hold of that sum in a sandbox is worth. -/
noncomputable def Tryz.pinned : Pinned := { name := "ytgpbhigjmkkofaagreat", sum := "7285ec2fdb64d1af6c112c633d52703131b9a076867e2a68c1bbd13d6df69e5c", checked := Tryz.checked }
namespace Rows
def none {H : Type} : Left H := { results := [], args := [] }

/-- 'n003_104.FnInRangeLeavesOtherShapesAlone': WHATEVER THE INPUT: true; the input reads as it did. -/
def fnInRangeLeavesOtherShapesAloneSpec : ChangeSpec := { name := "fnInRangeLeavesOtherShapesAlone", fn := fun _ => fun
  | [d1, d2, d3, d4, d5, d6, d7] => { results := [.lit (.bool true)], args := [d1, d2, d3, d4, d5, d6, d7] }
  | _ => none }
def fnInRangeLeavesOtherShapesAloneRow : OpenClaim := { program := "ytgpbhigjmkkofaagreat", sum := "7285ec2fdb64d1af6c112c633d52703131b9a076867e2a68c1bbd13d6df69e5c", func := "github.com/expr-lang/expr/n003_104.FnInRangeLeavesOtherShapesAlone", spec := "fnInRangeLeavesOtherShapesAlone", inPlace := ["reflect.TypeOf"], unfollowed := true, recurses := true, make := .lifted ["reflectrows", "leanrows"], apart := false }
def FnInRangeLeavesOtherShapesAloneSaid : Prop := fnInRangeLeavesOtherShapesAloneRow.holds Tryz.pinned (OpenSpec.ofChange fnInRangeLeavesOtherShapesAloneSpec)

/-- ITS FALSE NEIGHBOUR: 'it returns false'. Refute it at one input. -/
def fnInRangeLeavesOtherShapesAloneWrong : ChangeSpec := { name := "fnInRangeLeavesOtherShapesAlone", fn := fun _ => fun
  | [d1, d2, d3, d4, d5, d6, d7] => { results := [.lit (.bool false)], args := [d1, d2, d3, d4, d5, d6, d7] }
  | _ => none }
def FnInRangeLeavesOtherShapesAloneWrongFalsely : Prop := fnInRangeLeavesOtherShapesAloneRow.holds Tryz.pinned (OpenSpec.ofChange fnInRangeLeavesOtherShapesAloneWrong)

/-- 'n003_35.FnCountAnyRewriteKeepsMeaning': WHATEVER THE INPUT: true; the input reads as it did. -/
def fnCountAnyRewriteKeepsMeaningSpec : ChangeSpec := { name := "fnCountAnyRewriteKeepsMeaning", fn := fun _ => fun
  | [d1, d2, d3] => { results := [.lit (.bool true)], args := [d1, d2, d3] }
  | _ => none }
def fnCountAnyRewriteKeepsMeaningRow : OpenClaim := { program := "ytgpbhigjmkkofaagreat", sum := "7285ec2fdb64d1af6c112c633d52703131b9a076867e2a68c1bbd13d6df69e5c", func := "github.com/expr-lang/expr/n003_35.FnCountAnyRewriteKeepsMeaning", spec := "fnCountAnyRewriteKeepsMeaning", unfollowed := true, recurses := true, make := .lifted ["reflectrows", "leanrows"], apart := false }
def FnCountAnyRewriteKeepsMeaningSaid : Prop := fnCountAnyRewriteKeepsMeaningRow.holds Tryz.pinned (OpenSpec.ofChange fnCountAnyRewriteKeepsMeaningSpec)

/-- ITS FALSE NEIGHBOUR: 'it returns false'. Refute it at one input. -/
def fnCountAnyRewriteKeepsMeaningWrong : ChangeSpec := { name := "fnCountAnyRewriteKeepsMeaning", fn := fun _ => fun
  | [d1, d2, d3] => { results := [.lit (.bool false)], args := [d1, d2, d3] }
  | _ => none }
def FnCountAnyRewriteKeepsMeaningWrongFalsely : Prop := fnCountAnyRewriteKeepsMeaningRow.holds Tryz.pinned (OpenSpec.ofChange fnCountAnyRewriteKeepsMeaningWrong)

/-- 'n003_35.FnFilterFirstCaseTable': WHATEVER THE INPUT: true; the input reads as it did. -/
def fnFilterFirstCaseTableSpec : ChangeSpec := { name := "fnFilterFirstCaseTable", fn := fun _ => fun
  | [d1, d2, d3, d4, d5, d6, d7, d8, d9, d10] => { results := [.lit (.bool true)], args := [d1, d2, d3, d4, d5, d6, d7, d8, d9, d10] }
  | _ => none }
def fnFilterFirstCaseTableRow : OpenClaim := { program := "ytgpbhigjmkkofaagreat", sum := "7285ec2fdb64d1af6c112c633d52703131b9a076867e2a68c1bbd13d6df69e5c", func := "github.com/expr-lang/expr/n003_35.FnFilterFirstCaseTable", spec := "fnFilterFirstCaseTable", unfollowed := true, recurses := true, make := .lifted ["reflectrows", "leanrows"], apart := false }
def FnFilterFirstCaseTableSaid : Prop := fnFilterFirstCaseTableRow.holds Tryz.pinned (OpenSpec.ofChange fnFilterFirstCaseTableSpec)

/-- ITS FALSE NEIGHBOUR: 'it returns false'. Refute it at one input. -/
def fnFilterFirstCaseTableWrong : ChangeSpec := { name := "fnFilterFirstCaseTable", fn := fun _ => fun
  | [d1, d2, d3, d4, d5, d6, d7, d8, d9, d10] => { results := [.lit (.bool false)], args := [d1, d2, d3, d4, d5, d6, d7, d8, d9, d10] }
  | _ => none }
def FnFilterFirstCaseTableWrongFalsely : Prop := fnFilterFirstCaseTableRow.holds Tryz.pinned (OpenSpec.ofChange fnFilterFirstCaseTableWrong)

/-- 'n003_35.FnFilterFirstIdempotent': WHATEVER THE INPUT: true; the input reads as it did. -/
def fnFilterFirstIdempotentSpec : ChangeSpec := { name := "fnFilterFirstIdempotent", fn := fun _ => fun
  | [d1, d2, d3, d4, d5, d6, d7, d8, d9, d10] => { results := [.lit (.bool true)], args := [d1, d2, d3, d4, d5, d6, d7, d8, d9, d10] }
  | _ => none }
def fnFilterFirstIdempotentRow : OpenClaim := { program := "ytgpbhigjmkkofaagreat", sum := "7285ec2fdb64d1af6c112c633d52703131b9a076867e2a68c1bbd13d6df69e5c", func := "github.com/expr-lang/expr/n003_35.FnFilterFirstIdempotent", spec := "fnFilterFirstIdempotent", unfollowed := true, recurses := true, make := .lifted ["reflectrows", "leanrows"], apart := false }
def FnFilterFirstIdempotentSaid : Prop := fnFilterFirstIdempotentRow.holds Tryz.pinned (OpenSpec.ofChange fnFilterFirstIdempotentSpec)

/-- ITS FALSE NEIGHBOUR: 'it returns false'. Refute it at one input. -/
def fnFilterFirstIdempotentWrong : ChangeSpec := { name := "fnFilterFirstIdempotent", fn := fun _ => fun
  | [d1, d2, d3, d4, d5, d6, d7, d8, d9, d10] => { results := [.lit (.bool false)], args := [d1, d2, d3, d4, d5, d6, d7, d8, d9, d10] }
  | _ => none }
def FnFilterFirstIdempotentWrongFalsely : Prop := fnFilterFirstIdempotentRow.holds Tryz.pinned (OpenSpec.ofChange fnFilterFirstIdempotentWrong)

/-- 'n003_35.FnCountAnyCaseTable': WHATEVER THE INPUT: true; the input reads as it did. -/
def fnCountAnyCaseTableSpec : ChangeSpec := { name := "fnCountAnyCaseTable", fn := fun _ => fun
  | [d1, d2, d3, d4, d5, d6] => { results := [.lit (.bool true)], args := [d1, d2, d3, d4, d5, d6] }
  | _ => none }
def fnCountAnyCaseTableRow : OpenClaim := { program := "ytgpbhigjmkkofaagreat", sum := "7285ec2fdb64d1af6c112c633d52703131b9a076867e2a68c1bbd13d6df69e5c", func := "github.com/expr-lang/expr/n003_35.FnCountAnyCaseTable", spec := "fnCountAnyCaseTable", unfollowed := true, recurses := true, make := .lifted ["reflectrows", "leanrows"], apart := false }
def FnCountAnyCaseTableSaid : Prop := fnCountAnyCaseTableRow.holds Tryz.pinned (OpenSpec.ofChange fnCountAnyCaseTableSpec)

/-- ITS FALSE NEIGHBOUR: 'it returns false'. Refute it at one input. -/
def fnCountAnyCaseTableWrong : ChangeSpec := { name := "fnCountAnyCaseTable", fn := fun _ => fun
  | [d1, d2, d3, d4, d5, d6] => { results := [.lit (.bool false)], args := [d1, d2, d3, d4, d5, d6] }
  | _ => none }
def FnCountAnyCaseTableWrongFalsely : Prop := fnCountAnyCaseTableRow.holds Tryz.pinned (OpenSpec.ofChange fnCountAnyCaseTableWrong)

/- THE SECOND FORM. 'bulk': how many values and letters a reading holds, each counted each time it is reached (what is shared counts as often as it is met; a slice's spare places count too). A statement '..UptoSaid' is the law's where the arguments, and the package variables that the reading takes, are together of bulk at most 1048576: NARROWER than '..Said'. Prove '..Said' where nothing that the law and all that it calls make is longer than what came in: it says more and counts as full. Else prove '..UptoSaid'. A law counts once. -/
mutual
def uptoBulk {H : Type} : DataW H → Nat
  | .lit (.string bytes) => bytes.length + 1
  | .lit _ => 1
  | .nil => 1
  | .ptr d => uptoBulk d + 1
  | .slice elems spare => uptoBulkAll elems + uptoBulkAll spare + 1
  | .agg parts => uptoBulkAll parts + 1
  | .iface _ d => uptoBulk d + 1
  | .map entries => uptoBulkEntries entries + 1
  | .held _ => 1
def uptoBulkAll {H : Type} : List (DataW H) → Nat
  | [] => 0
  | d :: r => uptoBulk d + uptoBulkAll r
def uptoBulkEntries {H : Type} : List (Lit × DataW H) → Nat
  | [] => 0
  | x :: r => uptoBulkEntry x + uptoBulkEntries r
def uptoBulkEntry {H : Type} : Lit × DataW H → Nat
  | (.string bytes, d) => bytes.length + uptoBulk d + 1
  | (_, d) => uptoBulk d + 1
 end
def uptoSmall : (H : Type) → List (DataW H) → Bool := fun _ ds => decide (uptoBulkAll ds ≤ 1048576)
def OpenSpec.upto (s : _root_.Go.ChangeSpec) : _root_.Go.OpenSpec := { _root_.Go.OpenSpec.ofChange s with cond := some uptoSmall }

/-- 'n003_104.FnInRangeLeavesOtherShapesAlone', WHERE WHAT IT READS IS OF BULK AT MOST 1048576: true; the input reads as it did. -/
def fnInRangeLeavesOtherShapesAloneUptoRow : OpenClaim := { program := "ytgpbhigjmkkofaagreat", sum := "7285ec2fdb64d1af6c112c633d52703131b9a076867e2a68c1bbd13d6df69e5c", func := "github.com/expr-lang/expr/n003_104.FnInRangeLeavesOtherShapesAlone", spec := "fnInRangeLeavesOtherShapesAlone", inPlace := ["reflect.TypeOf"], unfollowed := true, recurses := true, make := .lifted ["reflectrows", "leanrows"], apart := false, narrowed := true }
def FnInRangeLeavesOtherShapesAloneUptoSaid : Prop := fnInRangeLeavesOtherShapesAloneUptoRow.holds Tryz.pinned (OpenSpec.upto fnInRangeLeavesOtherShapesAloneSpec)

/-- 'n003_35.FnCountAnyRewriteKeepsMeaning', WHERE WHAT IT READS IS OF BULK AT MOST 1048576: true; the input reads as it did. -/
def fnCountAnyRewriteKeepsMeaningUptoRow : OpenClaim := { program := "ytgpbhigjmkkofaagreat", sum := "7285ec2fdb64d1af6c112c633d52703131b9a076867e2a68c1bbd13d6df69e5c", func := "github.com/expr-lang/expr/n003_35.FnCountAnyRewriteKeepsMeaning", spec := "fnCountAnyRewriteKeepsMeaning", unfollowed := true, recurses := true, make := .lifted ["reflectrows", "leanrows"], apart := false, narrowed := true }
def FnCountAnyRewriteKeepsMeaningUptoSaid : Prop := fnCountAnyRewriteKeepsMeaningUptoRow.holds Tryz.pinned (OpenSpec.upto fnCountAnyRewriteKeepsMeaningSpec)

/-- 'n003_35.FnFilterFirstCaseTable', WHERE WHAT IT READS IS OF BULK AT MOST 1048576: true; the input reads as it did. -/
def fnFilterFirstCaseTableUptoRow : OpenClaim := { program := "ytgpbhigjmkkofaagreat", sum := "7285ec2fdb64d1af6c112c633d52703131b9a076867e2a68c1bbd13d6df69e5c", func := "github.com/expr-lang/expr/n003_35.FnFilterFirstCaseTable", spec := "fnFilterFirstCaseTable", unfollowed := true, recurses := true, make := .lifted ["reflectrows", "leanrows"], apart := false, narrowed := true }
def FnFilterFirstCaseTableUptoSaid : Prop := fnFilterFirstCaseTableUptoRow.holds Tryz.pinned (OpenSpec.upto fnFilterFirstCaseTableSpec)

/-- 'n003_35.FnFilterFirstIdempotent', WHERE WHAT IT READS IS OF BULK AT MOST 1048576: true; the input reads as it did. -/
def fnFilterFirstIdempotentUptoRow : OpenClaim := { program := "ytgpbhigjmkkofaagreat", sum := "7285ec2fdb64d1af6c112c633d52703131b9a076867e2a68c1bbd13d6df69e5c", func := "github.com/expr-lang/expr/n003_35.FnFilterFirstIdempotent", spec := "fnFilterFirstIdempotent", unfollowed := true, recurses := true, make := .lifted ["reflectrows", "leanrows"], apart := false, narrowed := true }
def FnFilterFirstIdempotentUptoSaid : Prop := fnFilterFirstIdempotentUptoRow.holds Tryz.pinned (OpenSpec.upto fnFilterFirstIdempotentSpec)

/-- 'n003_35.FnCountAnyCaseTable', WHERE WHAT IT READS IS OF BULK AT MOST 1048576: true; the input reads as it did. -/
def fnCountAnyCaseTableUptoRow : OpenClaim := { program := "ytgpbhigjmkkofaagreat", sum := "7285ec2fdb64d1af6c112c633d52703131b9a076867e2a68c1bbd13d6df69e5c", func := "github.com/expr-lang/expr/n003_35.FnCountAnyCaseTable", spec := "fnCountAnyCaseTable", unfollowed := true, recurses := true, make := .lifted ["reflectrows", "leanrows"], apart := false, narrowed := true }
def FnCountAnyCaseTableUptoSaid : Prop := fnCountAnyCaseTableUptoRow.holds Tryz.pinned (OpenSpec.upto fnCountAnyCaseTableSpec)

end Rows
end Go.Proofs.YtgpbhigjmkkofaaGreat

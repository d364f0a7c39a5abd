/-
  No cell of these rows narrows 'for every input' (looked for: loops, veiled, ifaces, maps, wideKeys, modest, calm, conditions, laid).
  DERIVED. THE GIVEN ROWS OF THIS SEAT. 4 by the template 'for every input the law returns true; each argument reads behind the call as it read before'; 0 by the template 'total and deterministic' (their statements: YtglhhfeaopjinaaGreatTotals.lean).
  GIVEN WITH THE SEED: the statements are not yours to turn. If you find one false, say at which input.
  Laid BY PROGRAM, IN A SANDBOX (cutbox-rows.mjs): the forced cells as the released guide's own fill.sh prints them over the translation f4da14eef9020ca2… (all of the seat's roots in one cut). By AI agents, Wed Nov 11 2026. No macro, syntax, notation, axiom, sorry.
-/
import Derived.Test.YtglhhfeaopjinaaGreatChecked
import GoSem.Claim
import GoSem.ClaimJoined
import GoSem.ClaimMapViews
import Derived.JoinedTies
import Derived.KernelRfl
namespace Go.Proofs.YtglhhfeaopjinaaGreat
/- THE CELL 'sum', in the pinned program and in every row, IS THE sha256 OF THE DUMP (.gsa) THAT YtglhhfeaopjinaaGreatProg.lean LOADS. Nothing in Lean hashes anything: it is a label: what it is worth is what the hold of that sum in a sandbox is worth. -/
noncomputable def Tryz.pinned : Pinned := { name := "ytglhhfeaopjinaagreat", sum := "f4da14eef9020ca27f50d64b0b56b6e4c9d7566686e61b1ba70b29c38b44ab17", checked := Tryz.checked }
namespace Rows
def none {H : Type} : Left H := { results := [], args := [] }

/-- 'n003_53.FnFilterLenCaseTable': WHATEVER THE INPUT: true; the input reads as it did. -/
def fnFilterLenCaseTableSpec : ChangeSpec := { name := "fnFilterLenCaseTable", fn := fun _ => fun
  | [d1, d2, d3, d4, d5] => { results := [.lit (.bool true)], args := [d1, d2, d3, d4, d5] }
  | _ => none }
def fnFilterLenCaseTableRow : OpenClaim := { program := "ytglhhfeaopjinaagreat", sum := "f4da14eef9020ca27f50d64b0b56b6e4c9d7566686e61b1ba70b29c38b44ab17", func := "github.com/expr-lang/expr/n003_53.FnFilterLenCaseTable", spec := "fnFilterLenCaseTable", unfollowed := true, recurses := true, make := .lifted ["reflectrows", "leanrows"], apart := false }
def FnFilterLenCaseTableSaid : Prop := fnFilterLenCaseTableRow.holds Tryz.pinned (OpenSpec.ofChange fnFilterLenCaseTableSpec)

/-- ITS FALSE NEIGHBOUR: 'it returns false'. Refute it at one input. -/
def fnFilterLenCaseTableWrong : ChangeSpec := { name := "fnFilterLenCaseTable", fn := fun _ => fun
  | [d1, d2, d3, d4, d5] => { results := [.lit (.bool false)], args := [d1, d2, d3, d4, d5] }
  | _ => none }
def FnFilterLenCaseTableWrongFalsely : Prop := fnFilterLenCaseTableRow.holds Tryz.pinned (OpenSpec.ofChange fnFilterLenCaseTableWrong)

/-- 'n003_53.FnFilterLastMemberCaseTable': WHATEVER THE INPUT: true; the input reads as it did. -/
def fnFilterLastMemberCaseTableSpec : ChangeSpec := { name := "fnFilterLastMemberCaseTable", fn := fun _ => fun
  | [d1, d2, d3, d4, d5, d6] => { results := [.lit (.bool true)], args := [d1, d2, d3, d4, d5, d6] }
  | _ => none }
def fnFilterLastMemberCaseTableRow : OpenClaim := { program := "ytglhhfeaopjinaagreat", sum := "f4da14eef9020ca27f50d64b0b56b6e4c9d7566686e61b1ba70b29c38b44ab17", func := "github.com/expr-lang/expr/n003_53.FnFilterLastMemberCaseTable", spec := "fnFilterLastMemberCaseTable", unfollowed := true, recurses := true, make := .lifted ["reflectrows", "leanrows"], apart := false }
def FnFilterLastMemberCaseTableSaid : Prop := fnFilterLastMemberCaseTableRow.holds Tryz.pinned (OpenSpec.ofChange fnFilterLastMemberCaseTableSpec)

/-- ITS FALSE NEIGHBOUR: 'it returns false'. Refute it at one input. -/
def fnFilterLastMemberCaseTableWrong : ChangeSpec := { name := "fnFilterLastMemberCaseTable", fn := fun _ => fun
  | [d1, d2, d3, d4, d5, d6] => { results := [.lit (.bool false)], args := [d1, d2, d3, d4, d5, d6] }
  | _ => none }
def FnFilterLastMemberCaseTableWrongFalsely : Prop := fnFilterLastMemberCaseTableRow.holds Tryz.pinned (OpenSpec.ofChange fnFilterLastMemberCaseTableWrong)

/-- 'n003_53.FnFilterLastLastCallCaseTable': WHATEVER THE INPUT: true; the input reads as it did. -/
def fnFilterLastLastCallCaseTableSpec : ChangeSpec := { name := "fnFilterLastLastCallCaseTable", fn := fun _ => fun
  | [d1, d2, d3, d4, d5] => { results := [.lit (.bool true)], args := [d1, d2, d3, d4, d5] }
  | _ => none }
def fnFilterLastLastCallCaseTableRow : OpenClaim := { program := "ytglhhfeaopjinaagreat", sum := "f4da14eef9020ca27f50d64b0b56b6e4c9d7566686e61b1ba70b29c38b44ab17", func := "github.com/expr-lang/expr/n003_53.FnFilterLastLastCallCaseTable", spec := "fnFilterLastLastCallCaseTable", unfollowed := true, recurses := true, make := .lifted ["reflectrows", "leanrows"], apart := false }
def FnFilterLastLastCallCaseTableSaid : Prop := fnFilterLastLastCallCaseTableRow.holds Tryz.pinned (OpenSpec.ofChange fnFilterLastLastCallCaseTableSpec)

/-- ITS FALSE NEIGHBOUR: 'it returns false'. Refute it at one input. -/
def fnFilterLastLastCallCaseTableWrong : ChangeSpec := { name := "fnFilterLastLastCallCaseTable", fn := fun _ => fun
  | [d1, d2, d3, d4, d5] => { results := [.lit (.bool false)], args := [d1, d2, d3, d4, d5] }
  | _ => none }
def FnFilterLastLastCallCaseTableWrongFalsely : Prop := fnFilterLastLastCallCaseTableRow.holds Tryz.pinned (OpenSpec.ofChange fnFilterLastLastCallCaseTableWrong)

/-- 'n003_53.FnFilterLenIdempotentAndKeepsOldNodes': WHATEVER THE INPUT: true; the input reads as it did. -/
def fnFilterLenIdempotentAndKeepsOldNodesSpec : ChangeSpec := { name := "fnFilterLenIdempotentAndKeepsOldNodes", fn := fun _ => fun
  | [d1, d2, d3, d4, d5] => { results := [.lit (.bool true)], args := [d1, d2, d3, d4, d5] }
  | _ => none }
def fnFilterLenIdempotentAndKeepsOldNodesRow : OpenClaim := { program := "ytglhhfeaopjinaagreat", sum := "f4da14eef9020ca27f50d64b0b56b6e4c9d7566686e61b1ba70b29c38b44ab17", func := "github.com/expr-lang/expr/n003_53.FnFilterLenIdempotentAndKeepsOldNodes", spec := "fnFilterLenIdempotentAndKeepsOldNodes", unfollowed := true, recurses := true, make := .lifted ["reflectrows", "leanrows"], apart := false }
def FnFilterLenIdempotentAndKeepsOldNodesSaid : Prop := fnFilterLenIdempotentAndKeepsOldNodesRow.holds Tryz.pinned (OpenSpec.ofChange fnFilterLenIdempotentAndKeepsOldNodesSpec)

/-- ITS FALSE NEIGHBOUR: 'it returns false'. Refute it at one input. -/
def fnFilterLenIdempotentAndKeepsOldNodesWrong : ChangeSpec := { name := "fnFilterLenIdempotentAndKeepsOldNodes", fn := fun _ => fun
  | [d1, d2, d3, d4, d5] => { results := [.lit (.bool false)], args := [d1, d2, d3, d4, d5] }
  | _ => none }
def FnFilterLenIdempotentAndKeepsOldNodesWrongFalsely : Prop := fnFilterLenIdempotentAndKeepsOldNodesRow.holds Tryz.pinned (OpenSpec.ofChange fnFilterLenIdempotentAndKeepsOldNodesWrong)

/- THE SECOND FORM. 'bulk': how many values and letters a reading holds, each counted each time it is reached (what is shared counts as often as it is met; a slice's spare places count too). A statement '..UptoSaid' is the law's where the arguments, and the package variables that the reading takes, are together of bulk at most 1048576: NARROWER than '..Said'. Prove '..Said' where nothing that the law and all that it calls make is longer than what came in: it says more and counts as full. Else prove '..UptoSaid'. A law counts once. -/
mutual
def uptoBulk {H : Type} : DataW H → Nat
  | .lit (.string bytes) => bytes.length + 1
  | .lit _ => 1
  | .nil => 1
  | .ptr d => uptoBulk d + 1
  | .slice elems spare => uptoBulkAll elems + uptoBulkAll spare + 1
  | .agg parts => uptoBulkAll parts + 1
  | .iface _ d => uptoBulk d + 1
  | .map entries => uptoBulkEntries entries + 1
  | .held _ => 1
def uptoBulkAll {H : Type} : List (DataW H) → Nat
  | [] => 0
  | d :: r => uptoBulk d + uptoBulkAll r
def uptoBulkEntries {H : Type} : List (Lit × DataW H) → Nat
  | [] => 0
  | x :: r => uptoBulkEntry x + uptoBulkEntries r
def uptoBulkEntry {H : Type} : Lit × DataW H → Nat
  | (.string bytes, d) => bytes.length + uptoBulk d + 1
  | (_, d) => uptoBulk d + 1
 end
def uptoSmall : (H : Type) → List (DataW H) → Bool := fun _ ds => decide (uptoBulkAll ds ≤ 1048576)
def OpenSpec.upto (s : _root_.Go.ChangeSpec) : _root_.Go.OpenSpec := { _root_.Go.OpenSpec.ofChange s with cond := some uptoSmall }

/-- 'n003_53.FnFilterLenCaseTable', WHERE WHAT IT READS IS OF BULK AT MOST 1048576: true; the input reads as it did. -/
def fnFilterLenCaseTableUptoRow : OpenClaim := { program := "ytglhhfeaopjinaagreat", sum := "f4da14eef9020ca27f50d64b0b56b6e4c9d7566686e61b1ba70b29c38b44ab17", func := "github.com/expr-lang/expr/n003_53.FnFilterLenCaseTable", spec := "fnFilterLenCaseTable", unfollowed := true, recurses := true, make := .lifted ["reflectrows", "leanrows"], apart := false, narrowed := true }
def FnFilterLenCaseTableUptoSaid : Prop := fnFilterLenCaseTableUptoRow.holds Tryz.pinned (OpenSpec.upto fnFilterLenCaseTableSpec)

/-- 'n003_53.FnFilterLastMemberCaseTable', WHERE WHAT IT READS IS OF BULK AT MOST 1048576: true; the input reads as it did. -/
def fnFilterLastMemberCaseTableUptoRow : OpenClaim := { program := "ytglhhfeaopjinaagreat", sum := "f4da14eef9020ca27f50d64b0b56b6e4c9d7566686e61b1ba70b29c38b44ab17", func := "github.com/expr-lang/expr/n003_53.FnFilterLastMemberCaseTable", spec := "fnFilterLastMemberCaseTable", unfollowed := true, recurses := true, make := .lifted ["reflectrows", "leanrows"], apart := false, narrowed := true }
def FnFilterLastMemberCaseTableUptoSaid : Prop := fnFilterLastMemberCaseTableUptoRow.holds Tryz.pinned (OpenSpec.upto fnFilterLastMemberCaseTableSpec)

/-- 'n003_53.FnFilterLastLastCallCaseTable', WHERE WHAT IT READS IS OF BULK AT MOST 1048576: true; the input reads as it did. -/
def fnFilterLastLastCallCaseTableUptoRow : OpenClaim := { program := "ytglhhfeaopjinaagreat", sum := "f4da14eef9020ca27f50d64b0b56b6e4c9d7566686e61b1ba70b29c38b44ab17", func := "github.com/expr-lang/expr/n003_53.FnFilterLastLastCallCaseTable", spec := "fnFilterLastLastCallCaseTable", unfollowed := true, recurses := true, make := .lifted ["reflectrows", "leanrows"], apart := false, narrowed := true }
def FnFilterLastLastCallCaseTableUptoSaid : Prop := fnFilterLastLastCallCaseTableUptoRow.holds Tryz.pinned (OpenSpec.upto fnFilterLastLastCallCaseTableSpec)

/-- 'n003_53.FnFilterLenIdempotentAndKeepsOldNodes', WHERE WHAT IT READS IS OF BULK AT MOST 1048576: true; the input reads as it did. -/
def fnFilterLenIdempotentAndKeepsOldNodesUptoRow : OpenClaim := { program := "ytglhhfeaopjinaagreat", sum := "f4da14eef9020ca27f50d64b0b56b6e4c9d7566686e61b1ba70b29c38b44ab17", func := "github.com/expr-lang/expr/n003_53.FnFilterLenIdempotentAndKeepsOldNodes", spec := "fnFilterLenIdempotentAndKeepsOldNodes", unfollowed := true, recurses := true, make := .lifted ["reflectrows", "leanrows"], apart := false, narrowed := true }
def FnFilterLenIdempotentAndKeepsOldNodesUptoSaid : Prop := fnFilterLenIdempotentAndKeepsOldNodesUptoRow.holds Tryz.pinned (OpenSpec.upto fnFilterLenIdempotentAndKeepsOldNodesSpec)

end Rows
end Go.Proofs.YtglhhfeaopjinaaGreat

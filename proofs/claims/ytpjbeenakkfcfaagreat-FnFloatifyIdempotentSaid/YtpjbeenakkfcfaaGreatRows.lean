/-
  No cell of these rows narrows 'for every input' (looked for: loops, veiled, ifaces, maps, wideKeys, modest, calm, conditions, laid).
  DERIVED. THE GIVEN ROWS OF THIS SEAT. 2 by the template 'for every input the law returns true; each argument reads behind the call as it read before'; 0 by the template 'total and deterministic' (their statements: YtpjbeenakkfcfaaGreatTotals.lean).
  GIVEN WITH THE SEED: the statements are not yours to turn. If you find one false, say at which input.
  Laid BY PROGRAM, IN A SANDBOX (cutbox-rows.mjs): the forced cells as the released guide's own fill.sh prints them over the translation 08044de160091223… (all of the seat's roots in one cut). By AI agents, Wed Nov 11 2026. No macro, syntax, notation, axiom, sorry.
-/
import Derived.Test.YtpjbeenakkfcfaaGreatChecked
import GoSem.Claim
import GoSem.ClaimJoined
import GoSem.ClaimMapViews
import Derived.JoinedTies
import Derived.KernelRfl
namespace Go.Proofs.YtpjbeenakkfcfaaGreat
/- THE CELL 'sum', in the pinned program and in every row, IS THE sha256 OF THE DUMP (.gsa) THAT YtpjbeenakkfcfaaGreatProg.lean LOADS. Nothing in Lean hashes anything: it is a label: what it is worth is what the hold of that sum in a sandbox is worth. -/
noncomputable def Tryz.pinned : Pinned := { name := "ytpjbeenakkfcfaagreat", sum := "08044de1600912238e485ec33f3ec81fc9b6b5f725adedd27bd868da8f395a72", checked := Tryz.checked }
namespace Rows
def none {H : Type} : Left H := { results := [], args := [] }

/-- 'n003_59.FnFloatifySpineTable': WHATEVER THE INPUT: true; the input reads as it did. -/
def fnFloatifySpineTableSpec : ChangeSpec := { name := "fnFloatifySpineTable", fn := fun _ => fun
  | [d1, d2] => { results := [.lit (.bool true)], args := [d1, d2] }
  | _ => none }
def fnFloatifySpineTableRow : OpenClaim := { program := "ytpjbeenakkfcfaagreat", sum := "08044de1600912238e485ec33f3ec81fc9b6b5f725adedd27bd868da8f395a72", func := "github.com/expr-lang/expr/n003_59.FnFloatifySpineTable", spec := "fnFloatifySpineTable", unfollowed := true, recurses := true, make := .lifted ["reflectrows", "leanrows"], apart := false }
def FnFloatifySpineTableSaid : Prop := fnFloatifySpineTableRow.holds Tryz.pinned (OpenSpec.ofChange fnFloatifySpineTableSpec)

/-- ITS FALSE NEIGHBOUR: 'it returns false'. Refute it at one input. -/
def fnFloatifySpineTableWrong : ChangeSpec := { name := "fnFloatifySpineTable", fn := fun _ => fun
  | [d1, d2] => { results := [.lit (.bool false)], args := [d1, d2] }
  | _ => none }
def FnFloatifySpineTableWrongFalsely : Prop := fnFloatifySpineTableRow.holds Tryz.pinned (OpenSpec.ofChange fnFloatifySpineTableWrong)

/-- 'n003_59.FnFloatifyIdempotent': WHATEVER THE INPUT: true; the input reads as it did. -/
def fnFloatifyIdempotentSpec : ChangeSpec := { name := "fnFloatifyIdempotent", fn := fun _ => fun
  | [d1, d2] => { results := [.lit (.bool true)], args := [d1, d2] }
  | _ => none }
def fnFloatifyIdempotentRow : OpenClaim := { program := "ytpjbeenakkfcfaagreat", sum := "08044de1600912238e485ec33f3ec81fc9b6b5f725adedd27bd868da8f395a72", func := "github.com/expr-lang/expr/n003_59.FnFloatifyIdempotent", spec := "fnFloatifyIdempotent", unfollowed := true, recurses := true, make := .lifted ["reflectrows", "leanrows"], apart := false }
def FnFloatifyIdempotentSaid : Prop := fnFloatifyIdempotentRow.holds Tryz.pinned (OpenSpec.ofChange fnFloatifyIdempotentSpec)

/-- ITS FALSE NEIGHBOUR: 'it returns false'. Refute it at one input. -/
def fnFloatifyIdempotentWrong : ChangeSpec := { name := "fnFloatifyIdempotent", fn := fun _ => fun
  | [d1, d2] => { results := [.lit (.bool false)], args := [d1, d2] }
  | _ => none }
def FnFloatifyIdempotentWrongFalsely : Prop := fnFloatifyIdempotentRow.holds Tryz.pinned (OpenSpec.ofChange fnFloatifyIdempotentWrong)

/- THE SECOND FORM. 'bulk': how many values and letters a reading holds, each counted each time it is reached (what is shared counts as often as it is met; a slice's spare places count too). A statement '..UptoSaid' is the law's where the arguments, and the package variables that the reading takes, are together of bulk at most 1048576: NARROWER than '..Said'. Prove '..Said' where nothing that the law and all that it calls make is longer than what came in: it says more and counts as full. Else prove '..UptoSaid'. A law counts once. -/
mutual
def uptoBulk {H : Type} : DataW H → Nat
  | .lit (.string bytes) => bytes.length + 1
  | .lit _ => 1
  | .nil => 1
  | .ptr d => uptoBulk d + 1
  | .slice elems spare => uptoBulkAll elems + uptoBulkAll spare + 1
  | .agg parts => uptoBulkAll parts + 1
  | .iface _ d => uptoBulk d + 1
  | .map entries => uptoBulkEntries entries + 1
  | .held _ => 1
def uptoBulkAll {H : Type} : List (DataW H) → Nat
  | [] => 0
  | d :: r => uptoBulk d + uptoBulkAll r
def uptoBulkEntries {H : Type} : List (Lit × DataW H) → Nat
  | [] => 0
  | x :: r => uptoBulkEntry x + uptoBulkEntries r
def uptoBulkEntry {H : Type} : Lit × DataW H → Nat
  | (.string bytes, d) => bytes.length + uptoBulk d + 1
  | (_, d) => uptoBulk d + 1
 end
def uptoSmall : (H : Type) → List (DataW H) → Bool := fun _ ds => decide (uptoBulkAll ds ≤ 1048576)
def OpenSpec.upto (s : _root_.Go.ChangeSpec) : _root_.Go.OpenSpec := { _root_.Go.OpenSpec.ofChange s with cond := some uptoSmall }

/-- 'n003_59.FnFloatifySpineTable', WHERE WHAT IT READS IS OF BULK AT MOST 1048576: true; the input reads as it did. -/
def fnFloatifySpineTableUptoRow : OpenClaim := { program := "ytpjbeenakkfcfaagreat", sum := "08044de1600912238e485ec33f3ec81fc9b6b5f725adedd27bd868da8f395a72", func := "github.com/expr-lang/expr/n003_59.FnFloatifySpineTable", spec := "fnFloatifySpineTable", unfollowed := true, recurses := true, make := .lifted ["reflectrows", "leanrows"], apart := false, narrowed := true }
def FnFloatifySpineTableUptoSaid : Prop := fnFloatifySpineTableUptoRow.holds Tryz.pinned (OpenSpec.upto fnFloatifySpineTableSpec)

/-- 'n003_59.FnFloatifyIdempotent', WHERE WHAT IT READS IS OF BULK AT MOST 1048576: true; the input reads as it did. -/
def fnFloatifyIdempotentUptoRow : OpenClaim := { program := "ytpjbeenakkfcfaagreat", sum := "08044de1600912238e485ec33f3ec81fc9b6b5f725adedd27bd868da8f395a72", func := "github.com/expr-lang/expr/n003_59.FnFloatifyIdempotent", spec := "fnFloatifyIdempotent", unfollowed := true, recurses := true, make := .lifted ["reflectrows", "leanrows"], apart := false, narrowed := true }
def FnFloatifyIdempotentUptoSaid : Prop := fnFloatifyIdempotentUptoRow.holds Tryz.pinned (OpenSpec.upto fnFloatifyIdempotentSpec)

end Rows
end Go.Proofs.YtpjbeenakkfcfaaGreat

/- The closed facts on the program of this seat that every row asks: no condition. -/
import Derived.Test.YtgpbhigjmkkofaaReflRows
import Derived.ProofKit
import Derived.ClosedOfChecked
namespace Go.Proofs.YtgpbhigjmkkofaaRefl.Facts
open Go.ClosedOfChecked
theorem hty : Tryr.checked.prog.types = Tryr.checked.src.types := by kernel_rfl
theorem rest : (Tryr.checked.prog.globals.all (fun g => decide (g.type < Tryr.checked.prog.types.size)) && Tryr.checked.prog.funcs.all (fun f => f.params.all fun t => decide (t < Tryr.checked.prog.types.size))) = true := by kernel_rfl
theorem keys : keysListB Tryr.checked.prog = true := by kernel_rfl
theorem three : laidOutB Tryr.checked.prog = true ∧ mapsRowed Tryr.checked.prog = true ∧ Tryr.checked.prog.plainKeys = true := closed_of_checked Tryr.checked hty rest keys
theorem heard : Tryr.checked.prog.stopsHeard = true := by kernel_rfl
theorem enter : Tryr.checked.prog.mayEnter = true := by kernel_rfl
theorem lifts : Tryr.checked.prog.liftsFinal = false := by kernel_rfl
theorem made : Tryr.checked.prog.make = some (.lifted ["reflectrows", "leanrows"]) := by kernel_rfl
theorem stops : Tryr.checked.prog.stops = [] := by kernel_rfl
theorem knobs : Tryr.checked.prog.stopKnobs = [] := by kernel_rfl
#print axioms three
end Go.Proofs.YtgpbhigjmkkofaaRefl.Facts

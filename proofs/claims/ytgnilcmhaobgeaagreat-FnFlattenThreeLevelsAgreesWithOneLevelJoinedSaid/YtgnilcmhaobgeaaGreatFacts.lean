/- The closed facts on the program of this seat that every row asks: no condition. -/
import Derived.Test.YtgnilcmhaobgeaaGreatRows
import Derived.ProofKit
import Derived.ClosedOfChecked
namespace Go.Proofs.YtgnilcmhaobgeaaGreat.Facts
open Go.ClosedOfChecked
theorem hty : Tryz.checked.prog.types = Tryz.checked.src.types := by kernel_rfl
theorem rest : (Tryz.checked.prog.globals.all (fun g => decide (g.type < Tryz.checked.prog.types.size)) && Tryz.checked.prog.funcs.all (fun f => f.params.all fun t => decide (t < Tryz.checked.prog.types.size))) = true := by kernel_rfl
theorem keys : keysListB Tryz.checked.prog = true := by kernel_rfl
theorem three : laidOutB Tryz.checked.prog = true ∧ mapsRowed Tryz.checked.prog = true ∧ Tryz.checked.prog.plainKeys = true := closed_of_checked Tryz.checked hty rest keys
theorem heard : Tryz.checked.prog.stopsHeard = true := by kernel_rfl
theorem enter : Tryz.checked.prog.mayEnter = true := by kernel_rfl
theorem lifts : Tryz.checked.prog.liftsFinal = false := by kernel_rfl
theorem made : Tryz.checked.prog.make = some (.lifted ["reflectrows", "leanrows"]) := by kernel_rfl
theorem stops : Tryz.checked.prog.stops = [] := by kernel_rfl
theorem knobs : Tryz.checked.prog.stopKnobs = [] := by kernel_rfl
#print axioms three
end Go.Proofs.YtgnilcmhaobgeaaGreat.Facts

/- Floatify: nodes in memory; SetType with no type; type assertions at pointers. -/
import Derived.Test.YtpjbeenakkfcfaaGreatProg
import Derived.Test.YtpjbeenakkfcfaaGreatHeap
import Derived.WalkKit
import Derived.WalkSpells
import Derived.WalkLawsBesides
import Derived.Deep.RegionWith
import Derived.Deep.OwnRows
import Derived.LaidEqlPtr
import Derived.Lib.Hide
namespace Go.Proofs.YtpjbeenakkfcfaaGreat
open Go.RowKit Go.Deep

/-- the nature without a type -/
abbrev nat0 : Array Value := #[.nilIface, .int .u64 0, .pointer none, .pointer none, .bool false, .bool false, .bool false, .bool false, .bool false]
/-- a node's cells: place, nature, the rest -/
def nd0 (r : List Value) : Array Value :=
  (([.int .i64 0, .int .i64 0, .nilIface, .int .u64 0, .pointer none, .pointer none, .bool false, .bool false, .bool false, .bool false, .bool false] : List Value) ++ r).toArray
def IntAt (w : World) (b : Nat) (v : Int) : Prop := w.heap[b]? = some (.cells (nd0 [.int .i64 v]) 73 (0, 0))
def FloatAt (w : World) (b : Nat) (x : Nat) : Prop := w.heap[b]? = some (.cells (nd0 [.float .f64 x]) 71 (0, 0))
abbrev ptr (b : Nat) : Value := .pointer (some ⟨b, 0, none⟩)

theorem ta_hit {T e : TypeId} (hu : Tryz.prog.underlying T = some (.pointer e)) (xt : TypeId) (v : Value) (w : World) : (Instr.typeAssert (.iface T v) xt T true).run Tryz.prog w = .ok (.tuple #[v, .bool true]) w := by
  simp [Instr.typeAssert, run_underlying hu]
theorem ta_one {T e : TypeId} (hu : Tryz.prog.underlying T = some (.pointer e)) (xt : TypeId) (v : Value) (w : World) : (Instr.typeAssert (.iface T v) xt T false).run Tryz.prog w = .ok v w := by
  simp [Instr.typeAssert, run_underlying hu]
theorem ta_miss {T e : TypeId} (hu : Tryz.prog.underlying T = some (.pointer e)) (hz : ∀ w, (zeroValue T).run Tryz.prog w = .ok (.pointer none) w) {U : TypeId} (hne : U ≠ T) (xt : TypeId) (v : Value) (w : World) : (Instr.typeAssert (.iface U v) xt T true).run Tryz.prog w = .ok (.tuple #[.pointer none, .bool false]) w := by
  simp [Instr.typeAssert, run_underlying hu, hne, hz, Result.andThen]
theorem neq_ptr_same {tp te : TypeId} (hp : Tryz.prog.underlying tp = some (.pointer te)) (hte : (Tryz.prog.info? te).isSome = true) (a : Addr) (w : World) :
    (binOp .neq tp (.pointer (some a)) (.pointer (some a))).run Tryz.prog w = .ok (.bool false) w := by
  obtain ⟨j, hj⟩ := Option.isSome_iff_exists.1 hte
  have h : ∀ d : Nat, (Op.equalIn (d + 1) tp (.pointer (some a)) (.pointer (some a))).run Tryz.prog w = .ok true w := fun d => by
    simp [Op.equalIn, run_underlying hp, sizeOf, typeInfo, hj, run_sameAddr_same]
  simp only [binOp]
  simp [Op.equal, Op.maxDepth, h 9999]
theorem eql_ptr_same {tp te : TypeId} (hp : Tryz.prog.underlying tp = some (.pointer te)) (hte : (Tryz.prog.info? te).isSome = true) (a : Addr) (w : World) :
    (binOp .eql tp (.pointer (some a)) (.pointer (some a))).run Tryz.prog w = .ok (.bool true) w := by
  obtain ⟨j, hj⟩ := Option.isSome_iff_exists.1 hte
  exact run_eql_ptr_same w a hp hj
theorem sInt : (Tryz.prog.info? 73).isSome = true := by kernel_rfl
theorem sFlo : (Tryz.prog.info? 71).isSome = true := by kernel_rfl
theorem zInt (w : World) : (zeroValue 53).run Tryz.prog w = .ok (.pointer none) w := by kernel_rfl
theorem zFlo (w : World) : (zeroValue 56).run Tryz.prog w = .ok (.pointer none) w := by kernel_rfl
theorem zUna (w : World) : (zeroValue 74).run Tryz.prog w = .ok (.pointer none) w := by kernel_rfl
theorem zBin (w : World) : (zeroValue 50).run Tryz.prog w = .ok (.pointer none) w := by kernel_rfl
theorem hasFlo (p : Nat) (w : World) : (method 865 56 (.pointer (some ⟨p, 0, none⟩)) "SetType").run Tryz.prog w = .ok (61, .pointer (some ⟨p, 0, none⟩)) w := by kernel_rfl
theorem aheadFlo (p : Nat) (w : World) : (nilAhead 865 56 (.pointer (some ⟨p, 0, none⟩)) "SetType").run Tryz.prog w = .ok (some false) w := by kernel_rfl

set_option maxRecDepth 100000 in
set_option maxHeartbeats 400000 in
theorem fromTypeC_nil (w : World) : Calls Tryz.prog 65 #[.pointer none, .nilIface] w fun e w' => e = .returned (.agg nat0) ∧ w' = w.alloc (.cells nat0 67) := by
  have h1 : ∀ w : World, (binOp .eql 62 .nilIface .nilIface).run Tryz.prog w = .ok (.bool true) w := fun w => by kernel_rfl
  go_enter Tryz.func65, Tryz.ntmps65
  go_wp2
  exact bodyPost_ret (v := .agg nat0) (by simp [results, Tryz.results65, go_sem]) rfl ⟨rfl, rfl⟩

set_option maxRecDepth 100000 in
set_option maxHeartbeats 400000 in
theorem fromType_nil (w : World) : Calls Tryz.prog 64 #[.nilIface] w fun e w' => e = .returned (.agg nat0) ∧ Below w.heap.size w w' := by
  go_enter Tryz.func64, Tryz.ntmps64
  go_wp2_with fail
  refine (fromTypeC_nil _).mono ?_
  rintro e w1 ⟨rfl, rfl⟩
  go_wp2_with fail
  exact bodyPost_ret (v := .agg nat0) (by simp [results, Tryz.results64, go_sem]) rfl ⟨rfl, by
    first | exact ((Below.refl _ _).alloc (Nat.le_refl _) _).alloc (by simp) _ | exact (Below.refl _ _).alloc (Nat.le_refl _) _⟩
end Go.Proofs.YtpjbeenakkfcfaaGreat

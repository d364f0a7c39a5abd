/- What the methods of ast's nodes and patchCopyType do to the world, at a node without a type: each node's block is known. -/
import Derived.Test.YtgpbhigjmkkofaaGreatProg
import Derived.Test.YtgpbhigjmkkofaaGreatHeap
import Derived.WalkKit
import Derived.WalkSpells
import Derived.WalkLawsBesides
import Derived.Deep.RegionWith
import Derived.Lib.Hide
namespace Go.Proofs.YtgpbhigjmkkofaaGreat
open Go.RowKit

/-- the type number t as a reflect.Type -/
abbrev rt (t : TypeId) : Value := .iface 122 (.pointer (some ⟨0, t, none⟩))
abbrev anyTy : Value := rt 20
abbrev nat (ty : Value) (k : Int) (i f : Bool) : Array Value := #[ty, .int .u64 k, .pointer none, .pointer none, .bool false, .bool false, .bool false, .bool i, .bool f]
/-- a node's cells: place, nature, the rest -/
def nd (ty : Value) (k : Int) (i f : Bool) (r : List Value) : Array Value :=
  ([.int .i64 0, .int .i64 0, ty, .int .u64 k, .pointer none, .pointer none, .bool false, .bool false, .bool false, .bool i, .bool f] ++ r).toArray
abbrev nd0 (r : List Value) : Array Value := nd .nilIface 0 false false r

theorem typeOf_run (t : TypeId) (v : Value) (w : World) : (callFunc 38 #[.iface t v]).run Tryz.prog w = .ok (.value (rt t)) w := by kernel_rfl
theorem mElem (t : TypeId) (w : World) : (method (Tryz.prog.types.size + 100) 122 (.pointer (some ⟨0, t, none⟩)) "Elem").run Tryz.prog w = .ok (156, .pointer (some ⟨0, t, none⟩)) w := by kernel_rfl
theorem mKind (t : TypeId) (w : World) : (method (Tryz.prog.types.size + 100) 122 (.pointer (some ⟨0, t, none⟩)) "Kind").run Tryz.prog w = .ok (168, .pointer (some ⟨0, t, none⟩)) w := by kernel_rfl
theorem cElemPtrAny (w : World) : (callFunc 156 #[.pointer (some ⟨0, 169, none⟩)]).run Tryz.prog w = .ok (.value anyTy) w := by kernel_rfl
theorem cKindAny (w : World) : (callFunc 168 #[.pointer (some ⟨0, 20, none⟩)]).run Tryz.prog w = .ok (.value (.int .u64 20)) w := by kernel_rfl
theorem eqNilRt (t : TypeId) (w : World) : (binOp .eql 43 (rt t) .nilIface).run Tryz.prog w = .ok (.bool false) w := by kernel_rfl
theorem tsize : Tryz.prog.types.size + 100 = 880 := by kernel_rfl

set_option maxRecDepth 100000 in
set_option maxHeartbeats 400000 in
theorem anyType_calls (w : World) :
    Calls Tryz.prog 91 #[] w fun e w' => e = .returned anyTy ∧ Below w.heap.size w w' := by
  have h1 := typeOf_run 169
  have h2 := mElem 169
  rw [tsize] at h2
  have h3 := cElemPtrAny
  go_enter Tryz.func91, Tryz.ntmps91
  go_wp2
  go_ret
  exact ⟨rfl, (Below.refl _ _).alloc (Nat.le_refl _) _⟩

set_option maxRecDepth 100000 in
set_option maxHeartbeats 400000 in
theorem fromTypeC_any (w : World) :
    Calls Tryz.prog 92 #[.pointer none, anyTy] w fun e w' => e = .returned (.agg (nat anyTy 20 false false)) ∧ w' = w.alloc (.cells (nat anyTy 20 false false) 48) := by
  have h1 := mKind 20
  rw [tsize] at h1
  have h2 := cKindAny
  have h3 := eqNilRt 20
  go_enter Tryz.func92, Tryz.ntmps92
  go_wp2
  exact bodyPost_ret (v := .agg (nat anyTy 20 false false)) (by simp [results, Tryz.results92, go_sem]) rfl ⟨rfl, rfl⟩

set_option maxRecDepth 100000 in
set_option maxHeartbeats 400000 in
theorem fromType_any (w : World) :
    Calls Tryz.prog 90 #[anyTy] w fun e w' => e = .returned (.agg (nat anyTy 20 false false)) ∧ Below w.heap.size w w' := by
  go_enter Tryz.func90, Tryz.ntmps90
  go_wp2_with fail
  refine (fromTypeC_any _).mono ?_
  rintro e w1 ⟨rfl, rfl⟩
  go_wp2_with fail
  exact bodyPost_ret (v := .agg (nat anyTy 20 false false)) (by simp [results, Tryz.results90, go_sem]) rfl ⟨rfl, by
    first | exact ((Below.refl _ _).alloc (Nat.le_refl _) _).alloc (by simp) _ | skip⟩

set_option maxRecDepth 100000 in
set_option maxHeartbeats 400000 in
theorem type_any (p : Nat) (w : World) (hc : w.cell? ⟨p, 2, none⟩ = some .nilIface) :
    Calls Tryz.prog 89 #[.pointer (some ⟨p, 0, none⟩)] w fun e w' => e = .returned anyTy ∧ Below w.heap.size w w' := by
  go_enter Tryz.func89, Tryz.ntmps89
  go_wp2_with fail
  refine (anyType_calls _).mono ?_
  rintro e w1 ⟨rfl, hb⟩
  go_wp2_with fail
  go_ret
  exact ⟨rfl, hb⟩
end Go.Proofs.YtgpbhigjmkkofaaGreat

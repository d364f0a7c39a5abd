/- zzSameRoot says yes at one root; zzFFExpect's answer. -/
import Derived.Test.YtgpbhigjmkkofaaGreatFirstC
namespace Go.Proofs.YtgpbhigjmkkofaaGreat
open Go.RowKit Go.Deep

theorem eql_ptr_same {tp te : TypeId} (hp : Tryz.prog.underlying tp = some (.pointer te)) (hte : (Tryz.prog.info? te).isSome = true) (a : Addr) (w : World) :
    (binOp .eql tp (.pointer (some a)) (.pointer (some a))).run Tryz.prog w = .ok (.bool true) w := by
  obtain ⟨j, hj⟩ := Option.isSome_iff_exists.1 hte
  have h : ∀ d : Nat, (Op.equalIn (d + 1) tp (.pointer (some a)) (.pointer (some a))).run Tryz.prog w = .ok true w := fun d => by
    simp [Op.equalIn, run_underlying hp, sizeOf, typeInfo, hj, run_sameAddr_same]
  simp only [binOp]
  simp [Op.equal, Op.maxDepth, h 9999]
theorem sMem : (Tryz.prog.info? 110).isSome = true := by kernel_rfl
theorem zMem (w : World) : (zeroValue 89).run Tryz.prog w = .ok (.pointer none) w := by kernel_rfl

set_option maxRecDepth 100000 in
set_option maxHeartbeats 1000000 in
theorem sameRoot_bui (q : Nat) (w : World) : Calls Tryz.prog 26 #[(.iface 77 (.pointer (some ⟨q, 0, none⟩))), (.iface 77 (.pointer (some ⟨q, 0, none⟩)))] w fun e w' => e = .returned (.bool true) ∧ w = w' := by
  have tBui := ta_hit Tryz.underlying77 59
  have eBui := eql_ptr_same Tryz.underlying77 sBui
  go_enter Tryz.func26, Tryz.ntmps26
  go_wp2_with fail
  go_ret
  exact ⟨rfl, rfl⟩
set_option maxRecDepth 100000 in
set_option maxHeartbeats 1000000 in
theorem sameRoot_mem (q : Nat) (w : World) : Calls Tryz.prog 26 #[(.iface 89 (.pointer (some ⟨q, 0, none⟩))), (.iface 89 (.pointer (some ⟨q, 0, none⟩)))] w fun e w' => e = .returned (.bool true) ∧ w = w' := by
  have tMem := ta_hit Tryz.underlying89 59
  have tBui := ta_miss Tryz.underlying77 zBui (show 89 ≠ 77 by decide) 59
  have eMem := eql_ptr_same Tryz.underlying89 sMem
  go_enter Tryz.func26, Tryz.ntmps26
  go_wp2_with fail
  go_ret
  exact ⟨rfl, rfl⟩
set_option maxRecDepth 100000 in
set_option maxHeartbeats 1000000 in
theorem sameRoot_idn (q : Nat) (w : World) : Calls Tryz.prog 26 #[(.iface 37 (.pointer (some ⟨q, 0, none⟩))), (.iface 37 (.pointer (some ⟨q, 0, none⟩)))] w fun e w' => e = .returned (.bool true) ∧ w = w' := by
  have tId := ta_hit Tryz.underlying37 59
  have tBui := ta_miss Tryz.underlying77 zBui (show 37 ≠ 77 by decide) 59
  have tMem := ta_miss Tryz.underlying89 zMem (show 37 ≠ 89 by decide) 59
  have eId := eql_ptr_same Tryz.underlying37 sId
  go_enter Tryz.func26, Tryz.ntmps26
  go_wp2_with fail
  go_ret
  exact ⟨rfl, rfl⟩

/-- the inner call is filter with two arguments -/
def FOk (ik : Int) (inn : ByteArray) (n : Int) : Prop := ik = 0 ∧ inn.toList = [102, 105, 108, 116, 101, 114] ∧ n = 2
def FMem (k pk pv : Int) (opt : Bool) : Prop := k = 0 ∧ pk = 1 ∧ pv = 0 ∧ opt = false
def FBui (k : Int) (on : ByteArray) (m : Int) : Prop := k = 1 ∧ on.toList = [102, 105, 114, 115, 116] ∧ m = 1
def FExp (k : Int) (on : ByteArray) (m pk pv : Int) (opt : Bool) (ik : Int) (inn : ByteArray) (n : Int) (e : Ending) : Prop :=
  (FOk ik inn n ∧ FMem k pk pv opt ∧ e = .returned (.tuple #[.bool true, .bool true])) ∨
  (FOk ik inn n ∧ FBui k on m ∧ e = .returned (.tuple #[.bool true, .bool false])) ∨
  (¬ (FOk ik inn n ∧ (FMem k pk pv opt ∨ FBui k on m)) ∧ e = .returned (.tuple #[.bool false, .bool false]))

set_option maxRecDepth 100000 in
set_option maxHeartbeats 2000000 in
theorem expect_all (k : Int) (on : ByteArray) (m pk pv : Int) (opt : Bool) (ik : Int) (inn : ByteArray) (n : Int) (w : World) :
    Calls Tryz.prog 22 #[.int .i64 k, .string on, .int .i64 m, .int .i64 pk, .int .i64 pv, .bool opt, .int .i64 ik, .string inn, .int .i64 n] w fun e w' => FExp k on m pk pv opt ik inn n e ∧ w = w' := by
  go_enter Tryz.func22, Tryz.ntmps22
  go_wp2_with fail
  all_goals
    go_ret2
    refine ⟨?_, rfl⟩
    first
      | (simp_all [FExp, FOk, FMem, FBui]; done)
      | (simp_all [FExp, FOk, FMem, FBui]; omega)
      | (simp_all [FExp, FOk, FMem, FBui]; intros; omega)
end Go.Proofs.YtgpbhigjmkkofaaGreat

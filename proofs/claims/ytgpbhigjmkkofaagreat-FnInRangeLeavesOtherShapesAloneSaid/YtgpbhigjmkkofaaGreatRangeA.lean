/- The typed left node of inRange's law; zzMod_b4. -/
import Derived.Test.YtgpbhigjmkkofaaGreatNodeI
import Derived.Test.YtgpbhigjmkkofaaGreatTree
namespace Go.Proofs.YtgpbhigjmkkofaaGreat
open Go.RowKit Go.Deep

theorem hasId (q : Nat) (w : World) : (method 880 37 (.pointer (some ⟨q, 0, none⟩)) "SetType").run Tryz.prog w = .ok (87, .pointer (some ⟨q, 0, none⟩)) w := by kernel_rfl
theorem aheadId (q : Nat) (w : World) : (nilAhead 880 37 (.pointer (some ⟨q, 0, none⟩)) "SetType").run Tryz.prog w = .ok (some false) w := by kernel_rfl

set_option maxRecDepth 100000 in
set_option maxHeartbeats 400000 in
theorem integerType_calls (w : World) : Calls Tryz.prog 35 #[] w fun e w' => e = .returned intTy ∧ w = w' := by
  have h1 := typeOf_run 3
  go_enter Tryz.func35, Tryz.ntmps35
  go_wp2_with fail
  go_ret
  exact ⟨rfl, rfl⟩
set_option maxRecDepth 100000 in
set_option maxHeartbeats 400000 in
theorem stringType_calls (w : World) : Calls Tryz.prog 36 #[] w fun e w' => e = .returned strTy ∧ w = w' := by
  have h1 := typeOf_run 9
  go_enter Tryz.func36, Tryz.ntmps36
  go_wp2_with fail
  go_ret
  exact ⟨rfl, rfl⟩

set_option maxRecDepth 100000 in
set_option maxHeartbeats 400000 in
theorem mod3 (k : Int) (_hk : (Lit.int .i8 k).wf = true) (w : World) : Calls Tryz.prog 8 #[.int .i8 k, .int .i64 3] w fun e w' => (∃ c : Nat, c < 3 ∧ e = .returned (.int .i64 c)) ∧ w = w' := by
  go_enter Tryz.func8, Tryz.ntmps8
  go_wp2_with fail
  all_goals
    have b1 : -3 < (wrap64 k).tmod 3 := Int.lt_tmod_of_pos _ (by omega)
    have b2 : (wrap64 k).tmod 3 < 3 := Int.tmod_lt_of_pos _ (by omega)
    generalize (wrap64 k).tmod 3 = x at *
    go_ret
  · refine ⟨⟨(x + 3).toNat, by omega, ?_⟩, rfl⟩
    have e : wrap64 (x + 3) = ((x + 3).toNat : Int) := by simp only [wrap64]; omega
    exact congrArg (fun v : Int => Ending.returned (Value.int .i64 v)) e
  · refine ⟨⟨x.toNat, by omega, ?_⟩, rfl⟩
    have e : x = (x.toNat : Int) := by omega
    exact congrArg (fun v : Int => Ending.returned (Value.int .i64 v)) e

set_option maxRecDepth 100000 in
set_option maxHeartbeats 1000000 in
theorem setInt (q : Nat) (r : List Value) (T : TypeId) (w : World) (hq : w.heap[q]? = some (.cells (nd0 r) T (0, 0))) :
    Calls Tryz.prog 29 #[(.iface 37 (.pointer (some ⟨q, 0, none⟩)))] w fun e w' => e = .returned (.tuple #[]) ∧ Wr [q] w w' ∧ w'.heap[q]? = some (.cells (nd intTy 2 true false r) T (0, 0)) := by
  have hmf : ∀ (fn : Fn) (first cap : Array Value) (w : World), (Instr.makeFunc fn first cap).run Tryz.prog w = .ok (.func fn first cap) w := fun _ _ _ _ => rfl
  have h1 := hasId q
  have h2 := aheadId q
  have HQ := Lib.hid hq
  clear hq
  go_enter Tryz.func29, Tryz.ntmps29
  go_wp2_with fail
  go_region_with (first
    | (go_at_call 35; refine (integerType_calls _).mono ?_; rintro e w1 ⟨rfl, rfl⟩)
    | (go_at_call 87; refine (setType_int q _ T _ (show w.drew.heap[q]? = _ from HQ.out) (by simp [nd])).mono ?_; rintro e w2 ⟨rfl, hw, hq2⟩))
  all_goals
    rw [setNat_nd] at hq2
    go_end0
    exact ⟨rfl, (Wr.refl [q] w).drew.trans hw (fun x hx _ => hx), hq2⟩

set_option maxRecDepth 100000 in
set_option maxHeartbeats 1000000 in
theorem setStr (q : Nat) (r : List Value) (T : TypeId) (w : World) (hq : w.heap[q]? = some (.cells (nd0 r) T (0, 0))) :
    Calls Tryz.prog 30 #[(.iface 37 (.pointer (some ⟨q, 0, none⟩)))] w fun e w' => e = .returned (.tuple #[]) ∧ Wr [q] w w' ∧ w'.heap[q]? = some (.cells (nd strTy 24 false false r) T (0, 0)) := by
  have hmf : ∀ (fn : Fn) (first cap : Array Value) (w : World), (Instr.makeFunc fn first cap).run Tryz.prog w = .ok (.func fn first cap) w := fun _ _ _ _ => rfl
  have h1 := hasId q
  have h2 := aheadId q
  have HQ := Lib.hid hq
  clear hq
  go_enter Tryz.func30, Tryz.ntmps30
  go_wp2_with fail
  go_region_with (first
    | (go_at_call 36; refine (stringType_calls _).mono ?_; rintro e w1 ⟨rfl, rfl⟩)
    | (go_at_call 87; refine (setType_str q _ T _ (show w.drew.heap[q]? = _ from HQ.out) (by simp [nd])).mono ?_; rintro e w2 ⟨rfl, hw, hq2⟩))
  all_goals
    rw [setNat_nd] at hq2
    go_end0
    exact ⟨rfl, (Wr.refl [q] w).drew.trans hw (fun x hx _ => hx), hq2⟩
end Go.Proofs.YtgpbhigjmkkofaaGreat

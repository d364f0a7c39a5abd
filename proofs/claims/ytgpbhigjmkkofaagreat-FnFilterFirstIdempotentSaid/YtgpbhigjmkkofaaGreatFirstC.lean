/- zzFFArgsKept says yes. -/
import Derived.Test.YtgpbhigjmkkofaaGreatFirstS
import Derived.Test.YtgpbhigjmkkofaaGreatNodeC
import Derived.Deep.QuietTactic
import Derived.BigQuiet
namespace Go.Proofs.YtgpbhigjmkkofaaGreat
open Go.RowKit Go.Deep

theorem below_drewN {B : Nat} {w w' : World} (h : Below B w w') (n : Nat) : Below B w (w'.drewN n) := ⟨h.os, h.tape, h.output, h.size, h.block⟩

set_option maxRecDepth 100000 in
set_option maxHeartbeats 2000000 in
theorem argsKept_no (v0 v1 v2 v4 v5 : Value) (w : World) :
    Calls Tryz.prog 34 #[.agg #[v0, v1, v2, .pointer none, v4, v5]] w fun e w' => e = .returned (.bool true) ∧ Below w.heap.size w w' := by
  go_enter Tryz.func34, Tryz.ntmps34
  go_wp2_with fail
  go_ret
  exact ⟨rfl, (Below.refl _ _).alloc (Nat.le_refl _) _⟩

set_option maxRecDepth 100000 in
set_option maxHeartbeats 2000000 in
theorem argsKept_yes (v0 v1 v2 v5 : Value) (pi ba bn b0 n : Nat) (hn : n ≤ 4096) (w : World) (hl : w.cell? ⟨pi, 12, none⟩ = some (.slice (some ⟨bn, 0, none⟩) n n)) (ha : Args w ba bn b0 n) :
    Calls Tryz.prog 34 #[.agg #[v0, v1, v2, (.pointer (some ⟨pi, 0, none⟩)), (.slice (some ⟨ba, 0, none⟩) n n), v5]] w fun e w' => e = .returned (.bool true) ∧ Below w.heap.size w w' := by
  have l1 : pi < w.heap.size := lt_of_cell hl
  have l2 : ba < w.heap.size := ha.ptrs.lt
  have l3 : bn < w.heap.size := ha.nodes.lt
  have HA := Lib.hid ha
  clear ha
  have tInt := ta_hit Tryz.underlying39 59
  have nInt := neq_ptr_same Tryz.underlying39 sInt
  have eBui : ∀ w : World, (binOp .eql 77 (.pointer (some ⟨pi, 0, none⟩)) (.pointer none)).run Tryz.prog w = .ok (.bool false) w := fun w => by kernel_rfl
  go_enter Tryz.func34, Tryz.ntmps34
  go_wp2_with fail
  go_quiet (fail)
  go_wp2_with fail
  go_loop [3] (fun i => ∃ k : Nat, k ≤ n ∧ i = .int .i64 k) (fun i => n - (intOf i).toNat)
  case atStart => exact ⟨0, Nat.zero_le _, rfl⟩
  case round =>
    obtain ⟨k, hk, rfl⟩ := hrel
    by_cases hlt : k < n
    · have cp : w.cell? ⟨ba, k, none⟩ = some (.pointer (some ⟨b0 + k, 0, none⟩)) := HA.out.ptrs.cell hlt
      have cn : w.cell? ⟨bn, k, none⟩ = some (.iface 39 (.pointer (some ⟨b0 + k, 0, none⟩))) := HA.out.nodes.cell hlt
      have ci : w.cell? ⟨b0 + k, 11, none⟩ = some (.int .i64 k) := by rw [cell_of_block (HA.out.ints k hlt)]; rfl
      have l4 : b0 + k < w.heap.size := lt_of_cell ci
      go_wp2_with fail
      go_round
      case rel => exact ⟨k + 1, by omega, by go_num⟩
      case measure => simp [intOf]; omega
    · obtain rfl : k = n := by omega
      go_wp2_with fail
      go_ret
      exact ⟨rfl, below_drewN ((Below.refl _ _).alloc (Nat.le_refl _) _) _⟩
end Go.Proofs.YtgpbhigjmkkofaaGreat

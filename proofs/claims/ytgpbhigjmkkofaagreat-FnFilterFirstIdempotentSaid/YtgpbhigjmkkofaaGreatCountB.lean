/- zzSameArgs says yes; what countAny's Visit does to the tree 'L op R', in each of its cases. -/
import Derived.Test.YtgpbhigjmkkofaaGreatCountA
import Derived.Test.YtgpbhigjmkkofaaGreatNodeC
namespace Go.Proofs.YtgpbhigjmkkofaaGreat
open Go.RowKit Go.Deep

set_option maxRecDepth 100000 in
set_option maxHeartbeats 1000000 in
theorem sameArgs_yes (pl ba bn b0 n : Nat) (hn : n ≤ 4096) (w : World) (hl : w.cell? ⟨pl, 12, none⟩ = some (.slice (some ⟨bn, 0, none⟩) n n)) (ha : Args w ba bn b0 n) :
    Calls Tryz.prog 28 #[(.pointer (some ⟨pl, 0, none⟩)), (.slice (some ⟨ba, 0, none⟩) n n)] w fun e w' => e = .returned (.bool true) ∧ w = w' := by
  have HA := Lib.hid ha
  clear ha
  have tInt := ta_hit Tryz.underlying39 59
  have nInt := neq_ptr_same Tryz.underlying39 sInt
  go_enter Tryz.func28, Tryz.ntmps28
  go_wp2_with fail
  go_loop [5] (fun i => ∃ k : Nat, k ≤ n ∧ i = .int .i64 k) (fun i => n - (intOf i).toNat)
  case atStart => exact ⟨0, Nat.zero_le _, rfl⟩
  case round =>
    obtain ⟨k, hk, rfl⟩ := hrel
    by_cases hlt : k < n
    · have cp : w.cell? ⟨ba, k, none⟩ = some (.pointer (some ⟨b0 + k, 0, none⟩)) := HA.out.ptrs.cell hlt
      have cn : w.cell? ⟨bn, k, none⟩ = some (.iface 39 (.pointer (some ⟨b0 + k, 0, none⟩))) := HA.out.nodes.cell hlt
      have ci : w.cell? ⟨b0 + k, 11, none⟩ = some (.int .i64 k) := by rw [cell_of_block (HA.out.ints k hlt)]; rfl
      go_wp2_with fail
      go_round
      case rel => exact ⟨k + 1, by omega, by go_num⟩
      case measure => simp [intOf]; omega
    · obtain rfl : k = n := by omega
      go_wp2_with fail
      go_ret
      exact ⟨rfl, rfl⟩
end Go.Proofs.YtgpbhigjmkkofaaGreat

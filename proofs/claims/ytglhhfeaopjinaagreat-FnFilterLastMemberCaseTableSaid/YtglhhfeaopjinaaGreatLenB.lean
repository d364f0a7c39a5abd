/- n003_53: the tests of its laws say yes: ZZas.., zzSameIdents, zzSameOuter. -/
import Derived.Test.YtglhhfeaopjinaaGreatLenA
import Derived.Deep.QuietTactic
import Derived.BigQuiet
namespace Go.Proofs.YtglhhfeaopjinaaGreat
open Go.RowKit Go.Deep

theorem below_drewN {B : Nat} {w w' : World} (h : Below B w w') (n : Nat) : Below B w (w'.drewN n) := ⟨h.os, h.tape, h.output, h.size, h.block⟩
theorem quiet_left {P : Program} {f : FuncId} {args : Array Value} {w : World} {n : Nat} {v : Value}
    (h : Calls P f args (w.drewN n) fun e w' => e = .returned v ∧ w.drewN n = w') : Calls P f args (w.drewN n) fun e w'' => e = .returned v ∧ ∃ m, w'' = w.drewN m :=
  h.mono fun _ _ ⟨he, hm⟩ => ⟨he, n, hm.symm⟩
theorem eql_ptr_same {tp te : TypeId} (hp : Tryz.prog.underlying tp = some (.pointer te)) (hte : (Tryz.prog.info? te).isSome = true) (a : Addr) (w : World) :
    (binOp .eql tp (.pointer (some a)) (.pointer (some a))).run Tryz.prog w = .ok (.bool true) w := by
  obtain ⟨j, hj⟩ := Option.isSome_iff_exists.1 hte
  exact run_eql_ptr_same w a hp hj
theorem sMem : (Tryz.prog.info? 70).isSome = true := by kernel_rfl
theorem zMem (w : World) : (zeroValue 68).run Tryz.prog w = .ok (.pointer none) w := by kernel_rfl

set_option maxRecDepth 100000 in
set_option maxHeartbeats 400000 in
theorem asId_yes (p : Nat) (w : World) : Calls Tryz.prog 18 #[(.iface 58 (.pointer (some ⟨p, 0, none⟩)))] w fun e w' => e = .returned (.pointer (some ⟨p, 0, none⟩)) ∧ w = w' := by
  have t := ta_hit Tryz.underlying58 54
  go_enter Tryz.func18, Tryz.ntmps18
  go_wp2_with fail
  go_ret
  exact ⟨rfl, rfl⟩
set_option maxRecDepth 100000 in
set_option maxHeartbeats 400000 in
theorem asBui_yes (p : Nat) (w : World) : Calls Tryz.prog 12 #[(.iface 39 (.pointer (some ⟨p, 0, none⟩)))] w fun e w' => e = .returned (.pointer (some ⟨p, 0, none⟩)) ∧ w = w' := by
  have t := ta_hit Tryz.underlying39 54
  go_enter Tryz.func12, Tryz.ntmps12
  go_wp2_with fail
  go_ret
  exact ⟨rfl, rfl⟩
set_option maxRecDepth 100000 in
set_option maxHeartbeats 400000 in
theorem asMem_yes (p : Nat) (w : World) : Calls Tryz.prog 17 #[(.iface 68 (.pointer (some ⟨p, 0, none⟩)))] w fun e w' => e = .returned (.pointer (some ⟨p, 0, none⟩)) ∧ w = w' := by
  have t := ta_hit Tryz.underlying68 54
  go_enter Tryz.func17, Tryz.ntmps17
  go_wp2_with fail
  go_ret
  exact ⟨rfl, rfl⟩

def Yes (w : World) (e : Ending) (w' : World) : Prop := e = .returned (.bool true) ∧ Below w.heap.size w w'

set_option maxRecDepth 100000 in
set_option maxHeartbeats 1000000 in
theorem sameIdents_yes (ba b0 bn n : Nat) (hn : n ≤ 65536) (w : World) (hi : Ids w ba b0 n) (hb : NodesAt w bn b0 n) :
    Calls Tryz.prog 14 #[(.slice (some ⟨bn, 0, none⟩) n n), (.slice (some ⟨ba, 0, none⟩) n n)] w (Yes w) := by
  have HI := Lib.hid hi
  have HB := Lib.hid hb
  clear hi hb
  have nId := neq_ptr_same Tryz.underlying58 sId
  go_enter Tryz.func14, Tryz.ntmps14
  go_wp2_with fail
  go_loopw [5] (fun i wr => ∃ k : Nat, k ≤ n ∧ i = .int .i64 k ∧ Below w.heap.size w wr) (fun i _ => n - (intOf i).toNat)
  case atStart => exact ⟨0, Nat.zero_le _, rfl, Below.refl _ _⟩
  case round =>
    obtain ⟨k, hk, rfl, hb⟩ := hrel
    by_cases hlt : k < n
    · have cp : wr.cell? ⟨ba, k, none⟩ = some (.pointer (some ⟨b0 + k, 0, none⟩)) := (Keeps.below hb).cell (HI.out.ptrs.cell hlt)
      have cn : wr.cell? ⟨bn, k, none⟩ = some (.iface 58 (.pointer (some ⟨b0 + k, 0, none⟩))) := (Keeps.below hb).cell (World.rowIs.cell HB.out hlt)
      have HW := Lib.hid hb
      clear hb
      go_wp2_with fail
      go_quiet ((go_at_call 18; exact quiet_left (asId_yes _ _)))
      go_wp2_with fail
      go_roundw
      case rel => exact ⟨k + 1, by omega, by go_num, below_drewN HW.out _⟩
      case measure => simp [intOf]; omega
    · obtain rfl : k = n := by omega
      have HW := Lib.hid hb
      clear hb
      go_wp2_with fail
      go_ret
      exact ⟨rfl, HW.out⟩

set_option maxRecDepth 100000 in
set_option maxHeartbeats 1000000 in
theorem sameOuter_yes (bo pi f0 fa m : Nat) (hm : m ≤ 65536) (w : World) (ho : OuterAt w bo pi f0 m) (hf : Ids w fa f0 m) :
    Calls Tryz.prog 13 #[(.slice (some ⟨bo, 0, none⟩) m m), (.pointer (some ⟨pi, 0, none⟩)), (.slice (some ⟨fa, 0, none⟩) m m), .int .i64 m] w (Yes w) := by
  have HO := Lib.hid ho
  have HF := Lib.hid hf
  clear ho hf
  have nId := neq_ptr_same Tryz.underlying58 sId
  have nBui := neq_ptr_same Tryz.underlying39 sBui
  go_enter Tryz.func13, Tryz.ntmps13
  go_wp2_with fail
  go_loopw [9] (fun i wr => ∃ k : Nat, k ≤ m ∧ i = .int .i64 k ∧ Below w.heap.size w wr) (fun i _ => m - (intOf i).toNat)
  case atStart => exact ⟨0, Nat.zero_le _, rfl, Below.refl _ _⟩
  case round =>
    obtain ⟨k, hk, rfl, hb⟩ := hrel
    by_cases hlt : k < m
    · have cp : wr.cell? ⟨fa, k, none⟩ = some (.pointer (some ⟨f0 + k, 0, none⟩)) := (Keeps.below hb).cell (HF.out.ptrs.cell hlt)
      have cn : wr.cell? ⟨bo, k, none⟩ = some (outerF pi f0 k) := (Keeps.below hb).cell (World.rowIs.cell HO.out hlt)
      have HW := Lib.hid hb
      clear hb
      by_cases hk0 : k = 0
      · subst hk0
        have cn0 : wr.cell? ⟨bo, 0, none⟩ = some (.iface 39 (.pointer (some ⟨pi, 0, none⟩))) := by rw [cn]; rfl
        clear cn cp
        go_wp2_with (go_at_call 12; refine (asBui_yes _ _).mono ?_; rintro e w' ⟨rfl, rfl⟩)
        go_roundw
        case rel => exact ⟨0 + 1, by omega, by go_num, HW.out⟩
        case measure => simp [intOf]; omega
      · have h0 : ((k : Int) == 0) = false := by simp; omega
        have cn0 : wr.cell? ⟨bo, k, none⟩ = some (.iface 58 (.pointer (some ⟨f0 + k, 0, none⟩))) := by rw [cn]; simp [outerF, hk0]
        clear cn
        go_wp2_with fail
        go_quiet ((go_at_call 18; exact quiet_left (asId_yes _ _)))
        go_wp2_with fail
        go_roundw
        case rel => exact ⟨k + 1, by omega, by go_num, below_drewN HW.out _⟩
        case measure => simp [intOf]; omega
    · obtain rfl : k = m := by omega
      have HW := Lib.hid hb
      clear hb
      go_wp2_with fail
      go_ret
      exact ⟨rfl, HW.out⟩
end Go.Proofs.YtglhhfeaopjinaaGreat

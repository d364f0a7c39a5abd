/- FnCountAnyCaseTable: the walk: true at every input. -/
import Derived.Test.YtgpbhigjmkkofaaGreatCountC
namespace Go.Proofs.YtgpbhigjmkkofaaGreat
open Go.RowKit Go.Deep

/-- some bool, the world as it was -/
def SomeBool (w : World) (e : Ending) (w' : World) : Prop := ∃ b : Bool, e = .returned (.bool b) ∧ w = w'

set_option maxRecDepth 100000 in
set_option maxHeartbeats 1000000 in
theorem bytes39 (a c f g : Int) (name op : ByteArray) (w : World) (h1 : name.size ≤ 65536) (h2 : op.size ≤ 65536) :
    Calls Tryz.prog 27 #[.int .i64 a, .string name, .int .i64 c, .int .i64 f, .string op, .int .i64 g] w fun e w' => e = .returned (.bool true) ∧ w = w' := by
  go_enter Tryz.func27, Tryz.ntmps27
  go_wp2_with fail
  go_ret
  exact ⟨rfl, rfl⟩

set_option maxRecDepth 100000 in
set_option maxHeartbeats 1000000 in
theorem bytes39_any (a c f g : Int) (name op : ByteArray) (w : World) (h1 : name.size ≤ maxLen) (h2 : op.size ≤ maxLen) :
    Calls Tryz.prog 27 #[.int .i64 a, .string name, .int .i64 c, .int .i64 f, .string op, .int .i64 g] w (SomeBool w) := by
  unfold maxLen at h1 h2
  go_enter Tryz.func27, Tryz.ntmps27
  go_wp2_with fail
  all_goals (go_ret; exact ⟨_, rfl, rfl⟩)


set_option maxRecDepth 100000 in
set_option maxHeartbeats 4000000 in
theorem law9_tt (n : Nat) (hn : n ≤ 4096) (name op : ByteArray) (v : Int) (w : World) (h1 : name.size ≤ 65536) (h2 : op.size ≤ 65536) :
    Calls Tryz.prog 7 #[.int .i64 0, .string name, .int .i64 n, .int .i64 0, .string op, .int .i64 v] w fun e w' => e = .returned (.bool true) ∧ Below w.heap.size w w' := by
  go_enter Tryz.func7, Tryz.ntmps7
  go_wp2_with fail
  refine (bytes39 _ _ _ _ _ _ _ h1 h2).mono ?_
  rintro e w' ⟨rfl, rfl⟩
  go_wp2_with fail
  refine (build_tt n hn name op v _).mono ?_
  rintro e w1 ⟨pb, pl, pr, bn, b0, ba, rfl, hc⟩
  have HC := Lib.hid hc
  clear hc
  go_wp2_with fail
  refine (zzVisit true true w1.heap.size pb pl pr bn b0 ba n name op v w _ (HC.out.alloc _) (alloc_new _ _)).mono ?_
  rintro e w3 hv
  rcases hv with ⟨hno, rfl, hb3⟩ | ⟨hyes, rfl, q, hw3, hq, hroot, hbuilt⟩
  · have hno' : ¬ Rw name op n v := fun h => hno ⟨rfl, rfl, h⟩
    have hc3 := (HC.out.alloc (.cells #[(.iface 60 (.pointer (some ⟨pb, 0, none⟩)))] 59)).move (w' := w3) (((HC.out.alloc _).below).trans (hb3.mono (by have := HC.out.below.size; rw [alloc_size]; omega))) (fun k o h => below_keep hb3 h)
    have hroot := below_keep hb3 (alloc_new w1 (.cells #[(.iface 60 (.pointer (some ⟨pb, 0, none⟩)))] 59))
    have c0 : w3.cell? ⟨w1.heap.size, 0, none⟩ = some (.iface 60 (.pointer (some ⟨pb, 0, none⟩))) := by rw [cell_of_block hroot]; rfl
    have c1 : w3.cell? ⟨pb, 11, none⟩ = some (.string op) := by rw [cell_of_block hc3.bin]; rfl
    have c2 : w3.cell? ⟨pb, 12, none⟩ = some (.iface 77 (.pointer (some ⟨pl, 0, none⟩))) := by rw [cell_of_block hc3.bin]; rfl
    have c3 : w3.cell? ⟨pb, 13, none⟩ = some (.iface 39 (.pointer (some ⟨pr, 0, none⟩))) := by rw [cell_of_block hc3.bin]; rfl
    have c4 : w3.cell? ⟨pl, 11, none⟩ = some (.string name) := by rw [cell_of_block hc3.left]; rfl
    have c5 : w3.cell? ⟨pl, 12, none⟩ = some (.slice (some ⟨bn, 0, none⟩) n n) := by rw [cell_of_block hc3.left]; rfl
    have c6 : w3.cell? ⟨pl, 15, none⟩ = some (.pointer none) := by rw [cell_of_block hc3.left]; rfl
    have c7 : w3.cell? ⟨pr, 11, none⟩ = some (.int .i64 v) := by rw [cell_of_block hc3.right]; rfl
    have tBin := ta_hit Tryz.underlying60 59
    have tBui := ta_hit Tryz.underlying77 59
    have tInt := ta_hit Tryz.underlying39 59
    have tNo := ta_miss Tryz.underlying77 zBui (show 60 ≠ 77 by decide) 59
    have nBin := neq_ptr_same Tryz.underlying60 sBin
    have nBui := neq_ptr_same Tryz.underlying77 sBui
    have HB := Lib.hid hc3.below
    have HAr := Lib.hid hc3.args
    have HN := Lib.hid hno'
    have HCC := Lib.hid c5
    clear hno hno' hb3 hc3 hroot
    go_wp2_with (go_at_call 28; refine (sameArgs_yes pl ba bn b0 n hn _ HCC.out HAr.out).mono ?_; rintro e w' ⟨rfl, rfl⟩)
    all_goals first
      | (exfalso; exact HN.out ⟨by assumption, by omega, Or.inl ⟨by assumption, by assumption⟩⟩)
      | (exfalso; exact HN.out ⟨by assumption, by omega, Or.inr ⟨by assumption, eq_of_beq (by assumption)⟩⟩)
      | (go_ret; exact ⟨rfl, HB.out⟩)
  · have hs := HC.out.below.size
    have ar3 : Args w3 ba bn b0 n := HC.out.args.move fun k hk _ => by
      rw [hw3.block k (by rw [alloc_size]; omega) (by simp; omega), alloc_old _ hk]
    have hbel : Below w.heap.size w w3 := (HC.out.below.alloc hs _).trans (hw3.below (by rw [alloc_size]; omega) (by simpa using hs))
    have c0 : w3.cell? ⟨w1.heap.size, 0, none⟩ = some (.iface 77 (.pointer (some ⟨q, 0, none⟩))) := by rw [cell_of_block hroot]; rfl
    have c1 : w3.cell? ⟨q, 11, none⟩ = some anyText := by rw [cell_of_block hbuilt]; rfl
    unfold anyText at c1
    have c2 : w3.cell? ⟨q, 12, none⟩ = some (.slice (some ⟨bn, 0, none⟩) n n) := by rw [cell_of_block hbuilt]; rfl
    have c3 : w3.cell? ⟨q, 13, none⟩ = some (.bool false) := by rw [cell_of_block hbuilt]; rfl
    have c4 : w3.cell? ⟨q, 14, none⟩ = some .nilIface := by rw [cell_of_block hbuilt]; rfl
    have c5 : w3.cell? ⟨q, 15, none⟩ = some (.pointer none) := by rw [cell_of_block hbuilt]; rfl
    have tBui := ta_hit Tryz.underlying77 59
    have eNil : ∀ w : World, (binOp .eql 59 .nilIface .nilIface).run Tryz.prog w = .ok (.bool true) w := fun w => by kernel_rfl
    have HB := Lib.hid hbel
    have HAr := Lib.hid ar3
    have HY := Lib.hid hyes.2.2
    have HCC := Lib.hid c2
    clear hyes hw3 hq hroot hbuilt hs hbel ar3
    go_wp2_with (go_at_call 28; refine (sameArgs_yes q ba bn b0 n hn _ HCC.out HAr.out).mono ?_; rintro e w' ⟨rfl, rfl⟩)
    all_goals first
      | (exfalso; exact Rw.no_name (by assumption) HY.out)
      | (exfalso; exact absurd HY.out.2.1 (by omega))
      | (exfalso; exact Rw.no_v0 (by assumption) (by assumption) HY.out)
      | (exfalso; exact Rw.no_v1 (by assumption) (by assumption) HY.out)
      | (exfalso; exact Rw.no_op (by assumption) (by assumption) HY.out)
      | (go_ret; exact ⟨rfl, HB.out⟩)

set_option maxRecDepth 100000 in
set_option maxHeartbeats 4000000 in
theorem law9_tf (n : Nat) (hn : n ≤ 4096) (name op : ByteArray) (v : Int) (w : World) (h1 : name.size ≤ 65536) (h2 : op.size ≤ 65536) :
    Calls Tryz.prog 7 #[.int .i64 0, .string name, .int .i64 n, .int .i64 1, .string op, .int .i64 v] w fun e w' => e = .returned (.bool true) ∧ Below w.heap.size w w' := by
  go_enter Tryz.func7, Tryz.ntmps7
  go_wp2_with fail
  refine (bytes39 _ _ _ _ _ _ _ h1 h2).mono ?_
  rintro e w' ⟨rfl, rfl⟩
  go_wp2_with fail
  refine (build_tf n hn name op v _).mono ?_
  rintro e w1 ⟨pb, pl, pr, bn, b0, ba, rfl, hc⟩
  have HC := Lib.hid hc
  clear hc
  go_wp2_with fail
  refine (zzVisit true false w1.heap.size pb pl pr bn b0 ba n name op v w _ (HC.out.alloc _) (alloc_new _ _)).mono ?_
  rintro e w3 hv
  rcases hv with ⟨_, rfl, hb3⟩ | ⟨hyes, _⟩
  · have hc3 := (HC.out.alloc (.cells #[(.iface 60 (.pointer (some ⟨pb, 0, none⟩)))] 59)).move (w' := w3) (((HC.out.alloc _).below).trans (hb3.mono (by have := HC.out.below.size; rw [alloc_size]; omega))) (fun k o h => below_keep hb3 h)
    have hroot := below_keep hb3 (alloc_new w1 (.cells #[(.iface 60 (.pointer (some ⟨pb, 0, none⟩)))] 59))
    have c0 : w3.cell? ⟨w1.heap.size, 0, none⟩ = some (.iface 60 (.pointer (some ⟨pb, 0, none⟩))) := by rw [cell_of_block hroot]; rfl
    have c1 : w3.cell? ⟨pb, 11, none⟩ = some (.string op) := by rw [cell_of_block hc3.bin]; rfl
    have c2 : w3.cell? ⟨pb, 12, none⟩ = some (.iface 77 (.pointer (some ⟨pl, 0, none⟩))) := by rw [cell_of_block hc3.bin]; rfl
    have c3 : w3.cell? ⟨pb, 13, none⟩ = some (.iface 55 (.pointer (some ⟨pr, 0, none⟩))) := by rw [cell_of_block hc3.bin]; rfl
    have c4 : w3.cell? ⟨pl, 11, none⟩ = some (.string name) := by rw [cell_of_block hc3.left]; rfl
    have c5 : w3.cell? ⟨pl, 12, none⟩ = some (.slice (some ⟨bn, 0, none⟩) n n) := by rw [cell_of_block hc3.left]; rfl
    have c6 : w3.cell? ⟨pl, 15, none⟩ = some (.pointer none) := by rw [cell_of_block hc3.left]; rfl
    have tBui := ta_hit Tryz.underlying77 59
    have nBui := neq_ptr_same Tryz.underlying77 sBui
    have HCC := Lib.hid c5
    have HAr := Lib.hid hc3.args
    have tFlo := ta_hit Tryz.underlying55 59
    have tBin := ta_hit Tryz.underlying60 59
    have nBin := neq_ptr_same Tryz.underlying60 sBin
    have HB := Lib.hid hc3.below
    clear hb3 hc3 hroot
    go_wp2_with (go_at_call 28; refine (sameArgs_yes pl ba bn b0 n hn _ HCC.out HAr.out).mono ?_; rintro e w' ⟨rfl, rfl⟩)
    all_goals (go_ret; exact ⟨rfl, HB.out⟩)
  · exact absurd hyes.2.1 (by simp)

set_option maxRecDepth 100000 in
set_option maxHeartbeats 4000000 in
theorem law9_ft (n : Nat) (hn : n ≤ 4096) (name op : ByteArray) (v : Int) (w : World) (h1 : name.size ≤ 65536) (h2 : op.size ≤ 65536) :
    Calls Tryz.prog 7 #[.int .i64 1, .string name, .int .i64 n, .int .i64 0, .string op, .int .i64 v] w fun e w' => e = .returned (.bool true) ∧ Below w.heap.size w w' := by
  go_enter Tryz.func7, Tryz.ntmps7
  go_wp2_with fail
  refine (bytes39 _ _ _ _ _ _ _ h1 h2).mono ?_
  rintro e w' ⟨rfl, rfl⟩
  go_wp2_with fail
  refine (build_ft n hn name op v _).mono ?_
  rintro e w1 ⟨pb, pl, pr, bn, b0, ba, rfl, hc⟩
  have HC := Lib.hid hc
  clear hc
  go_wp2_with fail
  refine (zzVisit false true w1.heap.size pb pl pr bn b0 ba n name op v w _ (HC.out.alloc _) (alloc_new _ _)).mono ?_
  rintro e w3 hv
  rcases hv with ⟨_, rfl, hb3⟩ | ⟨hyes, _⟩
  · have hc3 := (HC.out.alloc (.cells #[(.iface 60 (.pointer (some ⟨pb, 0, none⟩)))] 59)).move (w' := w3) (((HC.out.alloc _).below).trans (hb3.mono (by have := HC.out.below.size; rw [alloc_size]; omega))) (fun k o h => below_keep hb3 h)
    have hroot := below_keep hb3 (alloc_new w1 (.cells #[(.iface 60 (.pointer (some ⟨pb, 0, none⟩)))] 59))
    have c0 : w3.cell? ⟨w1.heap.size, 0, none⟩ = some (.iface 60 (.pointer (some ⟨pb, 0, none⟩))) := by rw [cell_of_block hroot]; rfl
    have c1 : w3.cell? ⟨pb, 11, none⟩ = some (.string op) := by rw [cell_of_block hc3.bin]; rfl
    have c2 : w3.cell? ⟨pb, 12, none⟩ = some (.iface 37 (.pointer (some ⟨pl, 0, none⟩))) := by rw [cell_of_block hc3.bin]; rfl
    have c3 : w3.cell? ⟨pb, 13, none⟩ = some (.iface 39 (.pointer (some ⟨pr, 0, none⟩))) := by rw [cell_of_block hc3.bin]; rfl
    have c7 : w3.cell? ⟨pr, 11, none⟩ = some (.int .i64 v) := by rw [cell_of_block hc3.right]; rfl
    have tInt := ta_hit Tryz.underlying39 59
    have tBin := ta_hit Tryz.underlying60 59
    have nBin := neq_ptr_same Tryz.underlying60 sBin
    have HB := Lib.hid hc3.below
    clear hb3 hc3 hroot
    go_wp2_with fail
    all_goals (go_ret; exact ⟨rfl, HB.out⟩)
  · exact absurd hyes.1 (by simp)

set_option maxRecDepth 100000 in
set_option maxHeartbeats 4000000 in
theorem law9_ff (n : Nat) (hn : n ≤ 4096) (name op : ByteArray) (v : Int) (w : World) (h1 : name.size ≤ 65536) (h2 : op.size ≤ 65536) :
    Calls Tryz.prog 7 #[.int .i64 1, .string name, .int .i64 n, .int .i64 1, .string op, .int .i64 v] w fun e w' => e = .returned (.bool true) ∧ Below w.heap.size w w' := by
  go_enter Tryz.func7, Tryz.ntmps7
  go_wp2_with fail
  refine (bytes39 _ _ _ _ _ _ _ h1 h2).mono ?_
  rintro e w' ⟨rfl, rfl⟩
  go_wp2_with fail
  refine (build_ff n hn name op v _).mono ?_
  rintro e w1 ⟨pb, pl, pr, bn, b0, ba, rfl, hc⟩
  have HC := Lib.hid hc
  clear hc
  go_wp2_with fail
  refine (zzVisit false false w1.heap.size pb pl pr bn b0 ba n name op v w _ (HC.out.alloc _) (alloc_new _ _)).mono ?_
  rintro e w3 hv
  rcases hv with ⟨_, rfl, hb3⟩ | ⟨hyes, _⟩
  · have hc3 := (HC.out.alloc (.cells #[(.iface 60 (.pointer (some ⟨pb, 0, none⟩)))] 59)).move (w' := w3) (((HC.out.alloc _).below).trans (hb3.mono (by have := HC.out.below.size; rw [alloc_size]; omega))) (fun k o h => below_keep hb3 h)
    have hroot := below_keep hb3 (alloc_new w1 (.cells #[(.iface 60 (.pointer (some ⟨pb, 0, none⟩)))] 59))
    have c0 : w3.cell? ⟨w1.heap.size, 0, none⟩ = some (.iface 60 (.pointer (some ⟨pb, 0, none⟩))) := by rw [cell_of_block hroot]; rfl
    have c1 : w3.cell? ⟨pb, 11, none⟩ = some (.string op) := by rw [cell_of_block hc3.bin]; rfl
    have c2 : w3.cell? ⟨pb, 12, none⟩ = some (.iface 37 (.pointer (some ⟨pl, 0, none⟩))) := by rw [cell_of_block hc3.bin]; rfl
    have c3 : w3.cell? ⟨pb, 13, none⟩ = some (.iface 55 (.pointer (some ⟨pr, 0, none⟩))) := by rw [cell_of_block hc3.bin]; rfl
    have tFlo := ta_hit Tryz.underlying55 59
    have tBin := ta_hit Tryz.underlying60 59
    have nBin := neq_ptr_same Tryz.underlying60 sBin
    have HB := Lib.hid hc3.below
    clear hb3 hc3 hroot
    go_wp2_with fail
    all_goals (go_ret; exact ⟨rfl, HB.out⟩)
  · exact absurd hyes.1 (by simp)

set_option maxRecDepth 100000 in
set_option maxHeartbeats 4000000 in
/-- THE WALK: at every input. -/
theorem law9 (lk : Int) (name : ByteArray) (n rk : Int) (op : ByteArray) (v : Int) (w : World) (h1 : name.size ≤ maxLen) (h2 : op.size ≤ maxLen) :
    Calls Tryz.prog 7 #[.int .i64 lk, .string name, .int .i64 n, .int .i64 rk, .string op, .int .i64 v] w fun e w' => e = .returned (.bool true) ∧ Below w.heap.size w w' := by
  by_cases hok : name.size ≤ 65536 ∧ op.size ≤ 65536 ∧ (0 ≤ n ∧ n ≤ 4096) ∧ (lk = 0 ∨ lk = 1) ∧ (rk = 0 ∨ rk = 1)
  · obtain ⟨g1, g2, ⟨g3, g4⟩, g5, g6⟩ := hok
    obtain ⟨m, rfl⟩ := Int.eq_ofNat_of_zero_le g3
    rcases g5 with rfl | rfl <;> rcases g6 with rfl | rfl
    · exact law9_tt m (by omega) name op v w g1 g2
    · exact law9_tf m (by omega) name op v w g1 g2
    · exact law9_ft m (by omega) name op v w g1 g2
    · exact law9_ff m (by omega) name op v w g1 g2
  · have m1 := h1
    have m2 := h2
    unfold maxLen at h1 h2
    have HN := Lib.hid hok
    clear hok
    go_enter Tryz.func7, Tryz.ntmps7
    go_wp2_with fail
    refine (bytes39_any _ _ _ _ _ _ _ m1 m2).mono ?_
    rintro e w' ⟨b, rfl, rfl⟩
    cases b
    · go_wp2_with fail
      go_ret
      exact ⟨rfl, Below.refl _ _⟩
    · go_wp2_with fail
      all_goals first
        | (go_ret; exact ⟨rfl, Below.refl _ _⟩)
        | (exfalso; refine HN.out ?_; refine ⟨by omega, by omega, ⟨by omega, by omega⟩, by omega, by omega⟩)
end Go.Proofs.YtgpbhigjmkkofaaGreat

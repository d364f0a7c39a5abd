/- zzFFIsFind says yes on what Visit makes; zzFFUnchanged on what zzFFBuild lays. Printed by checkgen.py. -/
import Derived.Test.YtgpbhigjmkkofaaGreatFirstW
namespace Go.Proofs.YtgpbhigjmkkofaaGreat
open Go.RowKit Go.Deep
set_option linter.unusedVariables false


set_option maxRecDepth 100000 in
set_option maxHeartbeats 2000000 in
theorem isFind_f (v0 v1 v2 : Value) (thr : Bool) (inn : ByteArray) (q pi pm ba bn b0 : Nat) (w : World) (hi : inn.toList = [102, 105, 108, 116, 101, 114])
    (hq : w.heap[q]? = some (.cells (nd anyTy 20 false false [findText, (.slice (some ⟨bn, 0, none⟩) 2 2), .bool thr, .nilIface, .pointer none]) 84 (0, 0)))
    (hn : w.heap[pi]? = some (.cells (nd0 [.string inn, (.slice (some ⟨bn, 0, none⟩) 2 2), .bool false, .nilIface, .pointer none]) 84 (0, 0))) (ha : Args w ba bn b0 2) :
    Calls Tryz.prog 23 #[(.iface 77 (.pointer (some ⟨q, 0, none⟩))), .agg #[v0, v1, v2, (.pointer (some ⟨pi, 0, none⟩)), (.slice (some ⟨ba, 0, none⟩) 2 2), (.pointer none)], .bool thr, .bool false] w fun e w' => e = .returned (.bool true) ∧ Below w.heap.size w w' := by
  have l1 : q < w.heap.size := lt_of_heap hq
  have l2 : pi < w.heap.size := lt_of_heap hn
  have l3 : ba < w.heap.size := ha.ptrs.lt
  have l4 : bn < w.heap.size := ha.nodes.lt
  have c0 : w.cell? ⟨q, 11, none⟩ = some (.string ⟨#[102, 105, 110, 100]⟩) := by rw [cell_of_block hq]; rfl
  have c1 : w.cell? ⟨q, 12, none⟩ = some (.slice (some ⟨bn, 0, none⟩) 2 2) := by rw [cell_of_block hq]; rfl
  have c2 : w.cell? ⟨q, 13, none⟩ = some (.bool thr) := by rw [cell_of_block hq]; rfl
  have c3 : w.cell? ⟨q, 14, none⟩ = some (.nilIface) := by rw [cell_of_block hq]; rfl
  have c4 : w.cell? ⟨q, 15, none⟩ = some (.pointer none) := by rw [cell_of_block hq]; rfl
  have c5 : w.cell? ⟨pi, 11, none⟩ = some (.string inn) := by rw [cell_of_block hn]; rfl
  have c6 : w.cell? ⟨pi, 12, none⟩ = some (.slice (some ⟨bn, 0, none⟩) 2 2) := by rw [cell_of_block hn]; rfl
  have c7 : w.cell? ⟨ba, 0, none⟩ = some (.pointer (some ⟨b0 + 0, 0, none⟩)) := ha.ptrs.cell (by omega)
  have c8 : w.cell? ⟨ba, 1, none⟩ = some (.pointer (some ⟨b0 + 1, 0, none⟩)) := ha.ptrs.cell (by omega)
  have c9 : w.cell? ⟨bn, 0, none⟩ = some (.iface 39 (.pointer (some ⟨b0 + 0, 0, none⟩))) := ha.nodes.cell (by omega)
  have c10 : w.cell? ⟨bn, 1, none⟩ = some (.iface 39 (.pointer (some ⟨b0 + 1, 0, none⟩))) := ha.nodes.cell (by omega)
  rw [Nat.add_zero] at c7 c9
  have HC := Lib.hid c6
  have HQ := Lib.hid hq
  have HR := Lib.hid ha
  have tBui := ta_hit Tryz.underlying77 59
  have tInt := ta_hit Tryz.underlying39 59
  have nInt := neq_ptr_same Tryz.underlying39 sInt
  have eInt := eql_ptr_same Tryz.underlying39 sInt
  have eBui : ∀ w : World, (binOp .eql 77 (.pointer (some ⟨pi, 0, none⟩)) (.pointer none)).run Tryz.prog w = .ok (.bool false) w := fun w => by kernel_rfl
  have eNil : ∀ w : World, (binOp .eql 59 .nilIface .nilIface).run Tryz.prog w = .ok (.bool true) w := fun w => by kernel_rfl
  clear hq hn ha
  go_enter Tryz.func23, Tryz.ntmps23
  go_wp2_with (go_at_call 34; refine (argsKept_yes _ _ _ _ pi ba bn b0 2 (by omega) _ (by rw [(Wr.alloc (Wr.refl [] w) _).cell l2 (by simp)]; exact HC.out) (HR.out.keep ((Wr.refl [] w).alloc _) (by simp))).mono ?_; rintro e w2 ⟨rfl, hb2⟩; have d3 : w2.cell? ⟨q, 14, none⟩ = some (.nilIface) := (by rw [cell_of_block (below_keep hb2 (by rw [alloc_old _ l1]; exact HQ.out))]; rfl); have d5 : w2.cell? ⟨w.heap.size, 5, none⟩ = some (.pointer none) := (by rw [cell_of_block (below_keep hb2 (alloc_new _ _))]; rfl); have hb3 := Lib.hid hb2; clear hb2)
  all_goals first
    | (go_ret; exact ⟨rfl, ((Below.refl _ _).alloc (Nat.le_refl _) _).trans (hb3.out.mono (by rw [alloc_size]; omega))⟩)
    | (exfalso; exact absurd hi (by assumption))
    | skip

set_option maxRecDepth 100000 in
set_option maxHeartbeats 2000000 in
theorem isFind_m (v0 v1 v2 : Value) (thr : Bool) (inn : ByteArray) (q pi pm ba bn b0 : Nat) (w : World) (hi : inn.toList = [102, 105, 108, 116, 101, 114])
    (hq : w.heap[q]? = some (.cells (nd anyTy 20 false false [findText, (.slice (some ⟨bn, 0, none⟩) 2 2), .bool thr, (.iface 39 (.pointer (some ⟨pm, 0, none⟩))), .pointer none]) 84 (0, 0)))
    (hn : w.heap[pi]? = some (.cells (nd0 [.string inn, (.slice (some ⟨bn, 0, none⟩) 2 2), .bool false, (.iface 39 (.pointer (some ⟨pm, 0, none⟩))), .pointer none]) 84 (0, 0))) (ha : Args w ba bn b0 2) :
    Calls Tryz.prog 23 #[(.iface 77 (.pointer (some ⟨q, 0, none⟩))), .agg #[v0, v1, v2, (.pointer (some ⟨pi, 0, none⟩)), (.slice (some ⟨ba, 0, none⟩) 2 2), (.pointer (some ⟨pm, 0, none⟩))], .bool thr, .bool true] w fun e w' => e = .returned (.bool true) ∧ Below w.heap.size w w' := by
  have l1 : q < w.heap.size := lt_of_heap hq
  have l2 : pi < w.heap.size := lt_of_heap hn
  have l3 : ba < w.heap.size := ha.ptrs.lt
  have l4 : bn < w.heap.size := ha.nodes.lt
  have c0 : w.cell? ⟨q, 11, none⟩ = some (.string ⟨#[102, 105, 110, 100]⟩) := by rw [cell_of_block hq]; rfl
  have c1 : w.cell? ⟨q, 12, none⟩ = some (.slice (some ⟨bn, 0, none⟩) 2 2) := by rw [cell_of_block hq]; rfl
  have c2 : w.cell? ⟨q, 13, none⟩ = some (.bool thr) := by rw [cell_of_block hq]; rfl
  have c3 : w.cell? ⟨q, 14, none⟩ = some (.iface 39 (.pointer (some ⟨pm, 0, none⟩))) := by rw [cell_of_block hq]; rfl
  have c4 : w.cell? ⟨q, 15, none⟩ = some (.pointer none) := by rw [cell_of_block hq]; rfl
  have c5 : w.cell? ⟨pi, 11, none⟩ = some (.string inn) := by rw [cell_of_block hn]; rfl
  have c6 : w.cell? ⟨pi, 12, none⟩ = some (.slice (some ⟨bn, 0, none⟩) 2 2) := by rw [cell_of_block hn]; rfl
  have c7 : w.cell? ⟨ba, 0, none⟩ = some (.pointer (some ⟨b0 + 0, 0, none⟩)) := ha.ptrs.cell (by omega)
  have c8 : w.cell? ⟨ba, 1, none⟩ = some (.pointer (some ⟨b0 + 1, 0, none⟩)) := ha.ptrs.cell (by omega)
  have c9 : w.cell? ⟨bn, 0, none⟩ = some (.iface 39 (.pointer (some ⟨b0 + 0, 0, none⟩))) := ha.nodes.cell (by omega)
  have c10 : w.cell? ⟨bn, 1, none⟩ = some (.iface 39 (.pointer (some ⟨b0 + 1, 0, none⟩))) := ha.nodes.cell (by omega)
  rw [Nat.add_zero] at c7 c9
  have HC := Lib.hid c6
  have HQ := Lib.hid hq
  have HR := Lib.hid ha
  have tBui := ta_hit Tryz.underlying77 59
  have tInt := ta_hit Tryz.underlying39 59
  have nInt := neq_ptr_same Tryz.underlying39 sInt
  have eInt := eql_ptr_same Tryz.underlying39 sInt
  have eBui : ∀ w : World, (binOp .eql 77 (.pointer (some ⟨pi, 0, none⟩)) (.pointer none)).run Tryz.prog w = .ok (.bool false) w := fun w => by kernel_rfl
  have eNil : ∀ w : World, (binOp .eql 59 .nilIface .nilIface).run Tryz.prog w = .ok (.bool true) w := fun w => by kernel_rfl
  clear hq hn ha
  go_enter Tryz.func23, Tryz.ntmps23
  go_wp2_with (go_at_call 34; refine (argsKept_yes _ _ _ _ pi ba bn b0 2 (by omega) _ (by rw [(Wr.alloc (Wr.refl [] w) _).cell l2 (by simp)]; exact HC.out) (HR.out.keep ((Wr.refl [] w).alloc _) (by simp))).mono ?_; rintro e w2 ⟨rfl, hb2⟩; have d3 : w2.cell? ⟨q, 14, none⟩ = some (.iface 39 (.pointer (some ⟨pm, 0, none⟩))) := (by rw [cell_of_block (below_keep hb2 (by rw [alloc_old _ l1]; exact HQ.out))]; rfl); have d5 : w2.cell? ⟨w.heap.size, 5, none⟩ = some (.pointer (some ⟨pm, 0, none⟩)) := (by rw [cell_of_block (below_keep hb2 (alloc_new _ _))]; rfl); have hb3 := Lib.hid hb2; clear hb2)
  all_goals first
    | (go_ret; exact ⟨rfl, ((Below.refl _ _).alloc (Nat.le_refl _) _).trans (hb3.out.mono (by rw [alloc_size]; omega))⟩)
    | (exfalso; exact absurd hi (by assumption))
    | skip

set_option maxRecDepth 100000 in
set_option maxHeartbeats 2000000 in
theorem unch_mem_i (P : Value) (v5 : Value) (on inn : ByteArray) (m : Nat) (opt : Bool) (pr pi ba bn b0 n : Nat) (hn : n ≤ 4096) (w : World) (hr : pr < w.heap.size) (hb : w.heap[pr]? = some (.cells (nd0 [(.iface 37 (.pointer (some ⟨pi, 0, none⟩))), P, .bool opt, .bool false]) 110 (0, 0)))
    (hi : True) (ha : Args w ba bn b0 n) :
    Calls Tryz.prog 24 #[(.iface 89 (.pointer (some ⟨pr, 0, none⟩))), .agg #[(.pointer (some ⟨pr, 0, none⟩)), (.pointer none), (.pointer none), (.pointer none), (.slice (some ⟨ba, 0, none⟩) n n), v5], .int .i64 0, .string on, .int .i64 m, .bool opt, .string inn] w fun e w' => e = .returned (.bool true) ∧ Below w.heap.size w w' := by
  have nB0 : ∀ w : World, (binOp .neq 77 (.pointer none) (.pointer none)).run Tryz.prog w = .ok (.bool false) w := fun w => by kernel_rfl
  have tMem := ta_hit Tryz.underlying89 59
  have nMem := neq_ptr_same Tryz.underlying89 sMem
  have c0 : w.cell? ⟨pr, 11, none⟩ = some (.iface 37 (.pointer (some ⟨pi, 0, none⟩))) := by rw [cell_of_block hb]; rfl
  have c1 : w.cell? ⟨pr, 13, none⟩ = some (.bool opt) := by rw [cell_of_block hb]; rfl
  clear hb hi ha
  go_enter Tryz.func24, Tryz.ntmps24
  go_wp2_with fail
  all_goals first
    | (go_ret; exact ⟨rfl, (Below.refl _ _).alloc (Nat.le_refl _) _⟩)
    | skip

set_option maxRecDepth 100000 in
set_option maxHeartbeats 2000000 in
theorem unch_mem_b (P : Value) (v5 : Value) (on inn : ByteArray) (m : Nat) (opt : Bool) (pr pi ba bn b0 n : Nat) (hn : n ≤ 4096) (w : World) (hr : pr < w.heap.size) (hb : w.heap[pr]? = some (.cells (nd0 [(.iface 77 (.pointer (some ⟨pi, 0, none⟩))), P, .bool opt, .bool false]) 110 (0, 0)))
    (hi : ∃ M, w.heap[pi]? = some (.cells (nd0 [.string inn, (.slice (some ⟨bn, 0, none⟩) n n), .bool false, M, .pointer none]) 84 (0, 0))) (ha : Args w ba bn b0 n) :
    Calls Tryz.prog 24 #[(.iface 89 (.pointer (some ⟨pr, 0, none⟩))), .agg #[(.pointer (some ⟨pr, 0, none⟩)), (.pointer none), (.pointer none), (.pointer (some ⟨pi, 0, none⟩)), (.slice (some ⟨ba, 0, none⟩) n n), v5], .int .i64 0, .string on, .int .i64 m, .bool opt, .string inn] w fun e w' => e = .returned (.bool true) ∧ Below w.heap.size w w' := by
  obtain ⟨M, hi⟩ := hi
  have l2 : pi < w.heap.size := lt_of_heap hi
  have c5 : w.cell? ⟨pi, 11, none⟩ = some (.string inn) := by rw [cell_of_block hi]; rfl
  have c6 : w.cell? ⟨pi, 12, none⟩ = some (.slice (some ⟨bn, 0, none⟩) n n) := by rw [cell_of_block hi]; rfl
  have c7 : w.cell? ⟨pi, 13, none⟩ = some (.bool false) := by rw [cell_of_block hi]; rfl
  have HC := Lib.hid c6
  have HR := Lib.hid ha
  have nB0 : ∀ w : World, (binOp .neq 77 (.pointer (some ⟨pi, 0, none⟩)) (.pointer none)).run Tryz.prog w = .ok (.bool true) w := fun w => by kernel_rfl
  have nBui := neq_ptr_same Tryz.underlying77 sBui
  have tMem := ta_hit Tryz.underlying89 59
  have nMem := neq_ptr_same Tryz.underlying89 sMem
  have tBui := ta_hit Tryz.underlying77 59
  have c0 : w.cell? ⟨pr, 11, none⟩ = some (.iface 77 (.pointer (some ⟨pi, 0, none⟩))) := by rw [cell_of_block hb]; rfl
  have c1 : w.cell? ⟨pr, 13, none⟩ = some (.bool opt) := by rw [cell_of_block hb]; rfl
  clear hb hi ha
  go_enter Tryz.func24, Tryz.ntmps24
  go_wp2_with (go_at_call 34; refine (argsKept_yes _ _ _ _ pi ba bn b0 n hn _ (by rw [(Wr.alloc (Wr.refl [] w) _).cell l2 (by simp)]; exact HC.out) (HR.out.keep ((Wr.refl [] w).alloc _) (by simp))).mono ?_; rintro e w2 ⟨rfl, hb2⟩; have hb3 := Lib.hid hb2; clear hb2)
  all_goals first
    | (go_ret; exact ⟨rfl, ((Below.refl _ _).alloc (Nat.le_refl _) _).trans (hb3.out.mono (by rw [alloc_size]; omega))⟩)
    | skip

set_option maxRecDepth 100000 in
set_option maxHeartbeats 2000000 in
theorem unch_bui_i (bo : Nat) (v5 : Value) (on inn : ByteArray) (m : Nat) (opt : Bool) (pr pi ba bn b0 n : Nat) (hn : n ≤ 4096) (w : World) (hr : pr < w.heap.size) (hb : w.heap[pr]? = some (.cells (nd0 [.string on, (.slice (some ⟨bo, 0, none⟩) m m), .bool false, .nilIface, .pointer none]) 84 (0, 0))) (hc : 0 < m → w.cell? ⟨bo, 0, none⟩ = some (.iface 37 (.pointer (some ⟨pi, 0, none⟩))))
    (hi : True) (ha : Args w ba bn b0 n) :
    Calls Tryz.prog 24 #[(.iface 77 (.pointer (some ⟨pr, 0, none⟩))), .agg #[(.pointer none), (.pointer (some ⟨pr, 0, none⟩)), (.pointer none), (.pointer none), (.slice (some ⟨ba, 0, none⟩) n n), v5], .int .i64 1, .string on, .int .i64 m, .bool opt, .string inn] w fun e w' => e = .returned (.bool true) ∧ Below w.heap.size w w' := by
  have nB0 : ∀ w : World, (binOp .neq 77 (.pointer none) (.pointer none)).run Tryz.prog w = .ok (.bool false) w := fun w => by kernel_rfl
  have nBui := neq_ptr_same Tryz.underlying77 sBui
  have tBui := ta_hit Tryz.underlying77 59
  have c0 : w.cell? ⟨pr, 11, none⟩ = some (.string on) := by rw [cell_of_block hb]; rfl
  have c1 : w.cell? ⟨pr, 12, none⟩ = some (.slice (some ⟨bo, 0, none⟩) m m) := by rw [cell_of_block hb]; rfl
  by_cases hm : m = 0
  · subst hm
    clear hb hc hi ha
    go_enter Tryz.func24, Tryz.ntmps24
    go_wp2_with fail
    all_goals first
      | (go_ret; exact ⟨rfl, (Below.refl _ _).alloc (Nat.le_refl _) _⟩)
      | skip
  · have c3 := hc (by omega)
    have l5 : bo < w.heap.size := lt_of_cell c3
    clear hb hc hi ha
    go_enter Tryz.func24, Tryz.ntmps24
    go_wp2_with fail
    all_goals first
      | (go_ret; exact ⟨rfl, (Below.refl _ _).alloc (Nat.le_refl _) _⟩)
      | skip

set_option maxRecDepth 100000 in
set_option maxHeartbeats 2000000 in
theorem unch_bui_b (bo : Nat) (v5 : Value) (on inn : ByteArray) (m : Nat) (opt : Bool) (pr pi ba bn b0 n : Nat) (hn : n ≤ 4096) (w : World) (hr : pr < w.heap.size) (hb : w.heap[pr]? = some (.cells (nd0 [.string on, (.slice (some ⟨bo, 0, none⟩) m m), .bool false, .nilIface, .pointer none]) 84 (0, 0))) (hc : 0 < m → w.cell? ⟨bo, 0, none⟩ = some (.iface 77 (.pointer (some ⟨pi, 0, none⟩))))
    (hi : ∃ M, w.heap[pi]? = some (.cells (nd0 [.string inn, (.slice (some ⟨bn, 0, none⟩) n n), .bool false, M, .pointer none]) 84 (0, 0))) (ha : Args w ba bn b0 n) :
    Calls Tryz.prog 24 #[(.iface 77 (.pointer (some ⟨pr, 0, none⟩))), .agg #[(.pointer none), (.pointer (some ⟨pr, 0, none⟩)), (.pointer none), (.pointer (some ⟨pi, 0, none⟩)), (.slice (some ⟨ba, 0, none⟩) n n), v5], .int .i64 1, .string on, .int .i64 m, .bool opt, .string inn] w fun e w' => e = .returned (.bool true) ∧ Below w.heap.size w w' := by
  obtain ⟨M, hi⟩ := hi
  have l2 : pi < w.heap.size := lt_of_heap hi
  have c5 : w.cell? ⟨pi, 11, none⟩ = some (.string inn) := by rw [cell_of_block hi]; rfl
  have c6 : w.cell? ⟨pi, 12, none⟩ = some (.slice (some ⟨bn, 0, none⟩) n n) := by rw [cell_of_block hi]; rfl
  have c7 : w.cell? ⟨pi, 13, none⟩ = some (.bool false) := by rw [cell_of_block hi]; rfl
  have HC := Lib.hid c6
  have HR := Lib.hid ha
  have nB0 : ∀ w : World, (binOp .neq 77 (.pointer (some ⟨pi, 0, none⟩)) (.pointer none)).run Tryz.prog w = .ok (.bool true) w := fun w => by kernel_rfl
  have nBui := neq_ptr_same Tryz.underlying77 sBui
  have tBui := ta_hit Tryz.underlying77 59
  have c0 : w.cell? ⟨pr, 11, none⟩ = some (.string on) := by rw [cell_of_block hb]; rfl
  have c1 : w.cell? ⟨pr, 12, none⟩ = some (.slice (some ⟨bo, 0, none⟩) m m) := by rw [cell_of_block hb]; rfl
  by_cases hm : m = 0
  · subst hm
    clear hb hc hi ha
    go_enter Tryz.func24, Tryz.ntmps24
    go_wp2_with (go_at_call 34; refine (argsKept_yes _ _ _ _ pi ba bn b0 n hn _ (by rw [(Wr.alloc (Wr.refl [] w) _).cell l2 (by simp)]; exact HC.out) (HR.out.keep ((Wr.refl [] w).alloc _) (by simp))).mono ?_; rintro e w2 ⟨rfl, hb2⟩; have hb3 := Lib.hid hb2; clear hb2)
    all_goals first
      | (go_ret; exact ⟨rfl, ((Below.refl _ _).alloc (Nat.le_refl _) _).trans (hb3.out.mono (by rw [alloc_size]; omega))⟩)
      | skip
  · have c3 := hc (by omega)
    have l5 : bo < w.heap.size := lt_of_cell c3
    clear hb hc hi ha
    go_enter Tryz.func24, Tryz.ntmps24
    go_wp2_with (go_at_call 34; refine (argsKept_yes _ _ _ _ pi ba bn b0 n hn _ (by rw [(Wr.alloc (Wr.refl [] w) _).cell l2 (by simp)]; exact HC.out) (HR.out.keep ((Wr.refl [] w).alloc _) (by simp))).mono ?_; rintro e w2 ⟨rfl, hb2⟩; have hb3 := Lib.hid hb2; clear hb2)
    all_goals first
      | (go_ret; exact ⟨rfl, ((Below.refl _ _).alloc (Nat.le_refl _) _).trans (hb3.out.mono (by rw [alloc_size]; omega))⟩)
      | skip

set_option maxRecDepth 100000 in
set_option maxHeartbeats 2000000 in
theorem unch_idn_i  (v5 : Value) (on inn : ByteArray) (m : Nat) (opt : Bool) (pr pi ba bn b0 n : Nat) (hn : n ≤ 4096) (w : World) (hr : pr < w.heap.size) 
    (hi : True) (ha : Args w ba bn b0 n) :
    Calls Tryz.prog 24 #[(.iface 37 (.pointer (some ⟨pr, 0, none⟩))), .agg #[(.pointer none), (.pointer none), (.pointer (some ⟨pr, 0, none⟩)), (.pointer none), (.slice (some ⟨ba, 0, none⟩) n n), v5], .int .i64 2, .string on, .int .i64 m, .bool opt, .string inn] w fun e w' => e = .returned (.bool true) ∧ Below w.heap.size w w' := by
  have nB0 : ∀ w : World, (binOp .neq 77 (.pointer none) (.pointer none)).run Tryz.prog w = .ok (.bool false) w := fun w => by kernel_rfl
  have tId := ta_hit Tryz.underlying37 59
  have nId := neq_ptr_same Tryz.underlying37 sId
  clear hi ha
  go_enter Tryz.func24, Tryz.ntmps24
  go_wp2_with fail
  all_goals first
    | (go_ret; exact ⟨rfl, (Below.refl _ _).alloc (Nat.le_refl _) _⟩)
    | skip

set_option maxRecDepth 100000 in
set_option maxHeartbeats 2000000 in
theorem unch_idn_b  (v5 : Value) (on inn : ByteArray) (m : Nat) (opt : Bool) (pr pi ba bn b0 n : Nat) (hn : n ≤ 4096) (w : World) (hr : pr < w.heap.size) 
    (hi : ∃ M, w.heap[pi]? = some (.cells (nd0 [.string inn, (.slice (some ⟨bn, 0, none⟩) n n), .bool false, M, .pointer none]) 84 (0, 0))) (ha : Args w ba bn b0 n) :
    Calls Tryz.prog 24 #[(.iface 37 (.pointer (some ⟨pr, 0, none⟩))), .agg #[(.pointer none), (.pointer none), (.pointer (some ⟨pr, 0, none⟩)), (.pointer (some ⟨pi, 0, none⟩)), (.slice (some ⟨ba, 0, none⟩) n n), v5], .int .i64 2, .string on, .int .i64 m, .bool opt, .string inn] w fun e w' => e = .returned (.bool true) ∧ Below w.heap.size w w' := by
  obtain ⟨M, hi⟩ := hi
  have l2 : pi < w.heap.size := lt_of_heap hi
  have c5 : w.cell? ⟨pi, 11, none⟩ = some (.string inn) := by rw [cell_of_block hi]; rfl
  have c6 : w.cell? ⟨pi, 12, none⟩ = some (.slice (some ⟨bn, 0, none⟩) n n) := by rw [cell_of_block hi]; rfl
  have c7 : w.cell? ⟨pi, 13, none⟩ = some (.bool false) := by rw [cell_of_block hi]; rfl
  have HC := Lib.hid c6
  have HR := Lib.hid ha
  have nB0 : ∀ w : World, (binOp .neq 77 (.pointer (some ⟨pi, 0, none⟩)) (.pointer none)).run Tryz.prog w = .ok (.bool true) w := fun w => by kernel_rfl
  have nBui := neq_ptr_same Tryz.underlying77 sBui
  have tId := ta_hit Tryz.underlying37 59
  have nId := neq_ptr_same Tryz.underlying37 sId
  clear hi ha
  go_enter Tryz.func24, Tryz.ntmps24
  go_wp2_with (go_at_call 34; refine (argsKept_yes _ _ _ _ pi ba bn b0 n hn _ (by rw [(Wr.alloc (Wr.refl [] w) _).cell l2 (by simp)]; exact HC.out) (HR.out.keep ((Wr.refl [] w).alloc _) (by simp))).mono ?_; rintro e w2 ⟨rfl, hb2⟩; have hb3 := Lib.hid hb2; clear hb2)
  all_goals first
    | (go_ret; exact ⟨rfl, ((Below.refl _ _).alloc (Nat.le_refl _) _).trans (hb3.out.mono (by rw [alloc_size]; omega))⟩)
    | skip
end Go.Proofs.YtgpbhigjmkkofaaGreat

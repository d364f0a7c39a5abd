/- What filterFirst's Visit does to the trees of zzFFBuild, in each case. Printed by visitgen.py. -/
import Derived.Test.YtgpbhigjmkkofaaGreatFirstW
namespace Go.Proofs.YtgpbhigjmkkofaaGreat
open Go.RowKit Go.Deep

set_option maxRecDepth 100000 in
set_option maxHeartbeats 2000000 in
theorem ffv_idn (r : Value) (a pr : Nat) (w : World) (ha : w.heap[a]? = some (.cells #[(.iface 37 (.pointer (some ⟨pr, 0, none⟩)))] 59 (0, 0))) :
    Calls Tryz.prog 33 #[r, .pointer (some ⟨a, 0, none⟩)] w (Kept w) := by
  have c0 : w.cell? ⟨a, 0, none⟩ = some (.iface 37 (.pointer (some ⟨pr, 0, none⟩))) := by rw [cell_of_block ha]; rfl
  have t1 := ta_miss Tryz.underlying89 zMem (show 37 ≠ 89 by decide) 59
  have t2 := ta_miss Tryz.underlying77 zBui (show 37 ≠ 77 by decide) 59
  clear ha
  go_enter Tryz.func33, Tryz.ntmps33
  go_wp2_with fail
  all_goals first
    | (go_end0; exact ⟨rfl, Below.refl _ _⟩)
    | (refine bodyPost_ret (results_none rfl _ _ _) rfl ?_; exact ⟨rfl, Below.refl _ _⟩)

set_option maxRecDepth 100000 in
set_option maxHeartbeats 2000000 in
theorem ffv_mem_no (r I : Value) (a pr : Nat) (opt : Bool) (w : World) (ha : w.heap[a]? = some (.cells #[(.iface 89 (.pointer (some ⟨pr, 0, none⟩)))] 59 (0, 0))) (hb : w.heap[pr]? = some (.cells (nd0 [I, .nilIface, .bool opt, .bool false]) 110 (0, 0))) :
    Calls Tryz.prog 33 #[r, .pointer (some ⟨a, 0, none⟩)] w (Kept w) := by
  have c0 : w.cell? ⟨a, 0, none⟩ = some (.iface 89 (.pointer (some ⟨pr, 0, none⟩))) := by rw [cell_of_block ha]; rfl
  have c1 : w.cell? ⟨pr, 11, none⟩ = some I := by rw [cell_of_block hb]; rfl
  have c2 : w.cell? ⟨pr, 12, none⟩ = some .nilIface := by rw [cell_of_block hb]; rfl
  have c3 : w.cell? ⟨pr, 13, none⟩ = some (.bool opt) := by rw [cell_of_block hb]; rfl
  have tMem := ta_hit Tryz.underlying89 59
  have tNo := ta_miss Tryz.underlying77 zBui (show 89 ≠ 77 by decide) 59
  have eNil : ∀ w : World, (binOp .neq 59 .nilIface .nilIface).run Tryz.prog w = .ok (.bool false) w := fun w => by kernel_rfl
  clear ha hb c1
  go_enter Tryz.func33, Tryz.ntmps33
  go_wp2_with fail
  all_goals first
    | (go_end0; exact ⟨rfl, Below.refl _ _⟩)
    | (refine bodyPost_ret (results_none rfl _ _ _) rfl ?_; exact ⟨rfl, Below.refl _ _⟩)

set_option maxRecDepth 100000 in
set_option maxHeartbeats 2000000 in
theorem ffv_mem_str (r I : Value) (a pr pp : Nat) (opt : Bool) (w : World) (ha : w.heap[a]? = some (.cells #[(.iface 89 (.pointer (some ⟨pr, 0, none⟩)))] 59 (0, 0))) (hb : w.heap[pr]? = some (.cells (nd0 [I, (.iface 111 (.pointer (some ⟨pp, 0, none⟩))), .bool opt, .bool false]) 110 (0, 0))) :
    Calls Tryz.prog 33 #[r, .pointer (some ⟨a, 0, none⟩)] w (Kept w) := by
  have c0 : w.cell? ⟨a, 0, none⟩ = some (.iface 89 (.pointer (some ⟨pr, 0, none⟩))) := by rw [cell_of_block ha]; rfl
  have c1 : w.cell? ⟨pr, 11, none⟩ = some I := by rw [cell_of_block hb]; rfl
  have c2 : w.cell? ⟨pr, 12, none⟩ = some (.iface 111 (.pointer (some ⟨pp, 0, none⟩))) := by rw [cell_of_block hb]; rfl
  have c3 : w.cell? ⟨pr, 13, none⟩ = some (.bool opt) := by rw [cell_of_block hb]; rfl
  have tMem := ta_hit Tryz.underlying89 59
  have tNo := ta_miss Tryz.underlying77 zBui (show 89 ≠ 77 by decide) 59
  have eNil : ∀ w : World, (binOp .neq 59 (.iface 111 (.pointer (some ⟨pp, 0, none⟩))) .nilIface).run Tryz.prog w = .ok (.bool true) w := fun w => by kernel_rfl
  have tInt := ta_miss Tryz.underlying39 zInt (show 111 ≠ 39 by decide) 59
  clear ha hb c1
  go_enter Tryz.func33, Tryz.ntmps33
  go_wp2_with fail
  all_goals first
    | (go_end0; exact ⟨rfl, Below.refl _ _⟩)
    | (refine bodyPost_ret (results_none rfl _ _ _) rfl ?_; exact ⟨rfl, Below.refl _ _⟩)

set_option maxRecDepth 100000 in
set_option maxHeartbeats 2000000 in
theorem ffv_mem_num_i (r : Value) (a pr pp pi : Nat) (pv : Int) (opt : Bool) (w : World) (ha : w.heap[a]? = some (.cells #[(.iface 89 (.pointer (some ⟨pr, 0, none⟩)))] 59 (0, 0))) (hb : w.heap[pr]? = some (.cells (nd0 [(.iface 37 (.pointer (some ⟨pi, 0, none⟩))), (.iface 39 (.pointer (some ⟨pp, 0, none⟩))), .bool opt, .bool false]) 110 (0, 0))) (hp : IntAt w pp pv) :
    Calls Tryz.prog 33 #[r, .pointer (some ⟨a, 0, none⟩)] w (Kept w) := by
  have c0 : w.cell? ⟨a, 0, none⟩ = some (.iface 89 (.pointer (some ⟨pr, 0, none⟩))) := by rw [cell_of_block ha]; rfl
  have c1 : w.cell? ⟨pr, 11, none⟩ = some (.iface 37 (.pointer (some ⟨pi, 0, none⟩))) := by rw [cell_of_block hb]; rfl
  have c2 : w.cell? ⟨pr, 12, none⟩ = some (.iface 39 (.pointer (some ⟨pp, 0, none⟩))) := by rw [cell_of_block hb]; rfl
  have c3 : w.cell? ⟨pr, 13, none⟩ = some (.bool opt) := by rw [cell_of_block hb]; rfl
  have c7 : w.cell? ⟨pp, 11, none⟩ = some (.int .i64 pv) := by rw [cell_of_block hp]; rfl
  have tMem := ta_hit Tryz.underlying89 59
  have tInt := ta_hit Tryz.underlying39 59
  have tNo := ta_miss Tryz.underlying77 zBui (show 89 ≠ 77 by decide) 59
  have eNil : ∀ w : World, (binOp .neq 59 (.iface 39 (.pointer (some ⟨pp, 0, none⟩))) .nilIface).run Tryz.prog w = .ok (.bool true) w := fun w => by kernel_rfl
  have tB2 := ta_miss Tryz.underlying77 zBui (show 37 ≠ 77 by decide) 59
  clear ha hb hp
  go_enter Tryz.func33, Tryz.ntmps33
  go_wp2_with fail
  all_goals first
    | (go_end0; exact ⟨rfl, Below.refl _ _⟩)
    | (refine bodyPost_ret (results_none rfl _ _ _) rfl ?_; exact ⟨rfl, Below.refl _ _⟩)

set_option maxRecDepth 100000 in
set_option maxHeartbeats 2000000 in
theorem ffv_find (r M : Value) (thr : Bool) (a pr bo m : Nat) (w : World) (ha : w.heap[a]? = some (.cells #[(.iface 77 (.pointer (some ⟨pr, 0, none⟩)))] 59 (0, 0))) (hb : w.heap[pr]? = some (.cells (nd anyTy 20 false false [findText, (.slice (some ⟨bo, 0, none⟩) m m), .bool thr, M, .pointer none]) 84 (0, 0))) :
    Calls Tryz.prog 33 #[r, .pointer (some ⟨a, 0, none⟩)] w (Kept w) := by
  have c0 : w.cell? ⟨a, 0, none⟩ = some (.iface 77 (.pointer (some ⟨pr, 0, none⟩))) := by rw [cell_of_block ha]; rfl
  have c1 : w.cell? ⟨pr, 11, none⟩ = some (.string ⟨#[102, 105, 110, 100]⟩) := by rw [cell_of_block hb]; rfl
  have c2 : w.cell? ⟨pr, 12, none⟩ = some (.slice (some ⟨bo, 0, none⟩) m m) := by rw [cell_of_block hb]; rfl
  have tBui := ta_hit Tryz.underlying77 59
  have t1 := ta_miss Tryz.underlying89 zMem (show 77 ≠ 89 by decide) 59
  clear ha hb
  go_enter Tryz.func33, Tryz.ntmps33
  go_wp2_with fail
  all_goals first
    | (go_end0; exact ⟨rfl, Below.refl _ _⟩)
    | (refine bodyPost_ret (results_none rfl _ _ _) rfl ?_; exact ⟨rfl, Below.refl _ _⟩)

set_option maxRecDepth 100000 in
set_option maxHeartbeats 2000000 in
theorem ffv_bui_i (r : Value) (on : ByteArray) (a pr bo m pi : Nat) (w : World) (ha : w.heap[a]? = some (.cells #[(.iface 77 (.pointer (some ⟨pr, 0, none⟩)))] 59 (0, 0))) (hb : w.heap[pr]? = some (.cells (nd0 [.string on, (.slice (some ⟨bo, 0, none⟩) m m), .bool false, .nilIface, .pointer none]) 84 (0, 0))) (hc : 0 < m → w.cell? ⟨bo, 0, none⟩ = some (.iface 37 (.pointer (some ⟨pi, 0, none⟩)))) :
    Calls Tryz.prog 33 #[r, .pointer (some ⟨a, 0, none⟩)] w (Kept w) := by
  have c0 : w.cell? ⟨a, 0, none⟩ = some (.iface 77 (.pointer (some ⟨pr, 0, none⟩))) := by rw [cell_of_block ha]; rfl
  have c1 : w.cell? ⟨pr, 11, none⟩ = some (.string on) := by rw [cell_of_block hb]; rfl
  have c2 : w.cell? ⟨pr, 12, none⟩ = some (.slice (some ⟨bo, 0, none⟩) m m) := by rw [cell_of_block hb]; rfl
  by_cases hm : m = 1
  · subst hm
    have c3 := hc (by omega)
    have tBui := ta_hit Tryz.underlying77 59
    have t1 := ta_miss Tryz.underlying89 zMem (show 77 ≠ 89 by decide) 59
    have t3 := ta_miss Tryz.underlying77 zBui (show 37 ≠ 77 by decide) 59
    clear ha hb hc
    go_enter Tryz.func33, Tryz.ntmps33
    go_wp2_with fail
    all_goals first
      | (go_end0; exact ⟨rfl, Below.refl _ _⟩)
      | (refine bodyPost_ret (results_none rfl _ _ _) rfl ?_; exact ⟨rfl, Below.refl _ _⟩)
  · have hm' : (((m : Nat) : Int) == 1) = false := by simp; omega
    have tBui := ta_hit Tryz.underlying77 59
    have t1 := ta_miss Tryz.underlying89 zMem (show 77 ≠ 89 by decide) 59
    clear ha hb hc
    go_enter Tryz.func33, Tryz.ntmps33
    go_wp2_with fail
    all_goals first
      | (go_end0; exact ⟨rfl, Below.refl _ _⟩)
      | (refine bodyPost_ret (results_none rfl _ _ _) rfl ?_; exact ⟨rfl, Below.refl _ _⟩)

set_option maxRecDepth 100000 in
set_option maxHeartbeats 2000000 in
theorem ffv_mem_num_b (r : Value) (a pr pp pi bn n : Nat) (inn : ByteArray) (pv : Int) (opt : Bool) (pm : Nat) (w : World) (ha : w.heap[a]? = some (.cells #[(.iface 89 (.pointer (some ⟨pr, 0, none⟩)))] 59 (0, 0))) (hb : w.heap[pr]? = some (.cells (nd0 [(.iface 77 (.pointer (some ⟨pi, 0, none⟩))), (.iface 39 (.pointer (some ⟨pp, 0, none⟩))), .bool opt, .bool false]) 110 (0, 0)))
    (hi : w.heap[pi]? = some (.cells (nd0 [.string inn, (.slice (some ⟨bn, 0, none⟩) n n), .bool false, .nilIface, .pointer none]) 84 (0, 0))) (hp : IntAt w pp pv) :
    Calls Tryz.prog 33 #[r, .pointer (some ⟨a, 0, none⟩)] w (FVisit w (pv = 0 ∧ opt = false ∧ FOk 0 inn n) a bn n true false pm) := by
  have c0 : w.cell? ⟨a, 0, none⟩ = some (.iface 89 (.pointer (some ⟨pr, 0, none⟩))) := by rw [cell_of_block ha]; rfl
  have c1 : w.cell? ⟨pr, 11, none⟩ = some (.iface 77 (.pointer (some ⟨pi, 0, none⟩))) := by rw [cell_of_block hb]; rfl
  have c2 : w.cell? ⟨pr, 12, none⟩ = some (.iface 39 (.pointer (some ⟨pp, 0, none⟩))) := by rw [cell_of_block hb]; rfl
  have c3 : w.cell? ⟨pr, 13, none⟩ = some (.bool opt) := by rw [cell_of_block hb]; rfl
  have c4 : w.cell? ⟨pi, 11, none⟩ = some (.string inn) := by rw [cell_of_block hi]; rfl
  have c5 : w.cell? ⟨pi, 12, none⟩ = some (.slice (some ⟨bn, 0, none⟩) n n) := by rw [cell_of_block hi]; rfl
  have c6 : w.cell? ⟨pi, 14, none⟩ = some (.nilIface) := by rw [cell_of_block hi]; rfl
  have c7 : w.cell? ⟨pp, 11, none⟩ = some (.int .i64 pv) := by rw [cell_of_block hp]; rfl
  have tMem := ta_hit Tryz.underlying89 59
  have tBui := ta_hit Tryz.underlying77 59
  have tInt := ta_hit Tryz.underlying39 59
  have tNo := ta_miss Tryz.underlying77 zBui (show 89 ≠ 77 by decide) 59
  have eNil : ∀ w : World, (binOp .neq 59 (.iface 39 (.pointer (some ⟨pp, 0, none⟩))) .nilIface).run Tryz.prog w = .ok (.bool true) w := fun w => by kernel_rfl
  have HA := Lib.hid ha
  have HB := Lib.hid hb
  have HI := Lib.hid hi
  clear ha hb hi hp
  go_enter Tryz.func33, Tryz.ntmps33
  go_wp2_with fail
  all_goals first
    | (go_end0; refine FVisit.no ?_ (Below.refl _ _); intro hx; simp_all [FOk]; done)
    | (go_end0; refine FVisit.no ?_ (Below.refl _ _); intro hx; simp_all [FOk, FBui]; omega)
    | (refine bodyPost_ret (results_none rfl _ _ _) rfl (FVisit.no ?_ (Below.refl _ _)); intro hx; simp_all [FOk, FBui]; done)
    | (refine bodyPost_ret (results_none rfl _ _ _) rfl (FVisit.no ?_ (Below.refl _ _)); intro hx; simp_all [FOk, FBui]; omega)
    | skip
  go_region_with (go_at_call 37; refine (patchCopyType_any a pr w.heap.size _ _ _ _ _ [findText, (.slice (some ⟨bn, 0, none⟩) n n), .bool true, .nilIface, .pointer none] _ hasMem.1 hasBui.1 hasMem.2 hasBui.2 (aheadBui _) (by rw [alloc_old _ (show a < w.drew.heap.size from lt_of_heap HA.out)]; exact HA.out) (by rw [alloc_old _ (show pr < w.drew.heap.size from lt_of_heap HB.out)]; exact HB.out) (alloc_new w.drew _) (by have := lt_of_heap HA.out; omega) (by have := lt_of_heap HB.out; omega)).mono ?_; rintro e w2 ⟨rfl, hw, h1, h2⟩)
  all_goals
    have hm := Lib.hid (MadeF.of (thr := true) (wm := false) (pm := pm) (lt_of_heap HA.out) hw h1 h2)
    have d0 : w2.cell? ⟨a, 0, none⟩ = some (.iface 77 (.pointer (some ⟨w.heap.size, 0, none⟩))) := by rw [cell_of_block h1]; rfl
    have d1 : w2.cell? ⟨w.heap.size, 11, none⟩ = some (.string ⟨#[102, 105, 110, 100]⟩) := by rw [cell_of_block h2]; rfl
    have d2 : w2.cell? ⟨w.heap.size, 12, none⟩ = some (.slice (some ⟨bn, 0, none⟩) n n) := by rw [cell_of_block h2]; rfl
    clear hw h1 h2
    go_wp2_with fail
    first | go_end0 | refine bodyPost_ret (results_none rfl _ _ _) rfl ?_
    refine Or.inr ⟨?_, hm.out⟩
    first | (simp_all [FOk]; done) | (simp_all [FOk, FBui]; omega)

set_option maxRecDepth 100000 in
set_option maxHeartbeats 2000000 in
theorem ffv_bui_b (r : Value) (on : ByteArray) (a pr bo m pi bn n : Nat) (inn : ByteArray) (pm : Nat) (w : World) (ha : w.heap[a]? = some (.cells #[(.iface 77 (.pointer (some ⟨pr, 0, none⟩)))] 59 (0, 0))) (hb : w.heap[pr]? = some (.cells (nd0 [.string on, (.slice (some ⟨bo, 0, none⟩) m m), .bool false, .nilIface, .pointer none]) 84 (0, 0)))
    (hi : w.heap[pi]? = some (.cells (nd0 [.string inn, (.slice (some ⟨bn, 0, none⟩) n n), .bool false, .nilIface, .pointer none]) 84 (0, 0))) (hc : 0 < m → w.cell? ⟨bo, 0, none⟩ = some (.iface 77 (.pointer (some ⟨pi, 0, none⟩)))) :
    Calls Tryz.prog 33 #[r, .pointer (some ⟨a, 0, none⟩)] w (FVisit w (FBui 1 on m ∧ FOk 0 inn n) a bn n false false pm) := by
  have c0 : w.cell? ⟨a, 0, none⟩ = some (.iface 77 (.pointer (some ⟨pr, 0, none⟩))) := by rw [cell_of_block ha]; rfl
  have c1 : w.cell? ⟨pr, 11, none⟩ = some (.string on) := by rw [cell_of_block hb]; rfl
  have c2 : w.cell? ⟨pr, 12, none⟩ = some (.slice (some ⟨bo, 0, none⟩) m m) := by rw [cell_of_block hb]; rfl
  have c4 : w.cell? ⟨pi, 11, none⟩ = some (.string inn) := by rw [cell_of_block hi]; rfl
  have c5 : w.cell? ⟨pi, 12, none⟩ = some (.slice (some ⟨bn, 0, none⟩) n n) := by rw [cell_of_block hi]; rfl
  have c6 : w.cell? ⟨pi, 14, none⟩ = some (.nilIface) := by rw [cell_of_block hi]; rfl
  by_cases hm : m = 1
  · subst hm
    have c3 := hc (by omega)
    have tBui := ta_hit Tryz.underlying77 59
    have t1 := ta_miss Tryz.underlying89 zMem (show 77 ≠ 89 by decide) 59
    have HA := Lib.hid ha
    have HB := Lib.hid hb
    have HI := Lib.hid hi
    clear ha hb hi hc
    go_enter Tryz.func33, Tryz.ntmps33
    go_wp2_with fail
    all_goals first
      | (go_end0; refine FVisit.no ?_ (Below.refl _ _); intro hx; simp_all [FOk, FBui]; done)
      | (go_end0; refine FVisit.no ?_ (Below.refl _ _); intro hx; simp_all [FOk, FBui]; omega)
      | (refine bodyPost_ret (results_none rfl _ _ _) rfl (FVisit.no ?_ (Below.refl _ _)); intro hx; simp_all [FOk, FBui]; done)
      | (refine bodyPost_ret (results_none rfl _ _ _) rfl (FVisit.no ?_ (Below.refl _ _)); intro hx; simp_all [FOk, FBui]; omega)
      | skip
    go_region_with (go_at_call 37; refine (patchCopyType_any a pr w.heap.size _ _ _ _ _ [findText, (.slice (some ⟨bn, 0, none⟩) n n), .bool false, .nilIface, .pointer none] _ hasBui2.1 hasBui.1 hasBui2.2 hasBui.2 (aheadBui _) (by rw [alloc_old _ (show a < w.drew.heap.size from lt_of_heap HA.out)]; exact HA.out) (by rw [alloc_old _ (show pr < w.drew.heap.size from lt_of_heap HB.out)]; exact HB.out) (alloc_new w.drew _) (by have := lt_of_heap HA.out; omega) (by have := lt_of_heap HB.out; omega)).mono ?_; rintro e w2 ⟨rfl, hw, h1, h2⟩)
    all_goals
      have hm := Lib.hid (MadeF.of (thr := false) (wm := false) (pm := pm) (lt_of_heap HA.out) hw h1 h2)
      clear hw h1 h2
      first | go_end0 | refine bodyPost_ret (results_none rfl _ _ _) rfl ?_
      refine Or.inr ⟨?_, hm.out⟩
      first | (simp_all [FOk, FBui]; done) | (simp_all [FOk, FBui]; omega)
  · have hm' : (((m : Nat) : Int) == 1) = false := by simp; omega
    have tBui := ta_hit Tryz.underlying77 59
    have t1 := ta_miss Tryz.underlying89 zMem (show 77 ≠ 89 by decide) 59
    clear ha hb hi hc
    go_enter Tryz.func33, Tryz.ntmps33
    go_wp2_with fail
    all_goals first
      | (go_end0; refine FVisit.no ?_ (Below.refl _ _); intro hx; simp_all [FOk, FBui]; done)
      | (go_end0; refine FVisit.no ?_ (Below.refl _ _); intro hx; simp_all [FOk, FBui]; omega)
      | (refine bodyPost_ret (results_none rfl _ _ _) rfl (FVisit.no ?_ (Below.refl _ _)); intro hx; simp_all [FOk, FBui]; done)
      | (refine bodyPost_ret (results_none rfl _ _ _) rfl (FVisit.no ?_ (Below.refl _ _)); intro hx; simp_all [FOk, FBui]; omega)
      | skip

set_option maxRecDepth 100000 in
set_option maxHeartbeats 2000000 in
theorem ffv_mem_num_bm (r : Value) (a pr pp pi bn n : Nat) (inn : ByteArray) (pv : Int) (opt : Bool) (pm : Nat) (w : World) (ha : w.heap[a]? = some (.cells #[(.iface 89 (.pointer (some ⟨pr, 0, none⟩)))] 59 (0, 0))) (hb : w.heap[pr]? = some (.cells (nd0 [(.iface 77 (.pointer (some ⟨pi, 0, none⟩))), (.iface 39 (.pointer (some ⟨pp, 0, none⟩))), .bool opt, .bool false]) 110 (0, 0)))
    (hi : w.heap[pi]? = some (.cells (nd0 [.string inn, (.slice (some ⟨bn, 0, none⟩) n n), .bool false, (.iface 39 (.pointer (some ⟨pm, 0, none⟩))), .pointer none]) 84 (0, 0))) (hp : IntAt w pp pv) :
    Calls Tryz.prog 33 #[r, .pointer (some ⟨a, 0, none⟩)] w (FVisit w (pv = 0 ∧ opt = false ∧ FOk 0 inn n) a bn n true true pm) := by
  have c0 : w.cell? ⟨a, 0, none⟩ = some (.iface 89 (.pointer (some ⟨pr, 0, none⟩))) := by rw [cell_of_block ha]; rfl
  have c1 : w.cell? ⟨pr, 11, none⟩ = some (.iface 77 (.pointer (some ⟨pi, 0, none⟩))) := by rw [cell_of_block hb]; rfl
  have c2 : w.cell? ⟨pr, 12, none⟩ = some (.iface 39 (.pointer (some ⟨pp, 0, none⟩))) := by rw [cell_of_block hb]; rfl
  have c3 : w.cell? ⟨pr, 13, none⟩ = some (.bool opt) := by rw [cell_of_block hb]; rfl
  have c4 : w.cell? ⟨pi, 11, none⟩ = some (.string inn) := by rw [cell_of_block hi]; rfl
  have c5 : w.cell? ⟨pi, 12, none⟩ = some (.slice (some ⟨bn, 0, none⟩) n n) := by rw [cell_of_block hi]; rfl
  have c6 : w.cell? ⟨pi, 14, none⟩ = some (.iface 39 (.pointer (some ⟨pm, 0, none⟩))) := by rw [cell_of_block hi]; rfl
  have c7 : w.cell? ⟨pp, 11, none⟩ = some (.int .i64 pv) := by rw [cell_of_block hp]; rfl
  have tMem := ta_hit Tryz.underlying89 59
  have tBui := ta_hit Tryz.underlying77 59
  have tInt := ta_hit Tryz.underlying39 59
  have tNo := ta_miss Tryz.underlying77 zBui (show 89 ≠ 77 by decide) 59
  have eNil : ∀ w : World, (binOp .neq 59 (.iface 39 (.pointer (some ⟨pp, 0, none⟩))) .nilIface).run Tryz.prog w = .ok (.bool true) w := fun w => by kernel_rfl
  have HA := Lib.hid ha
  have HB := Lib.hid hb
  have HI := Lib.hid hi
  clear ha hb hi hp
  go_enter Tryz.func33, Tryz.ntmps33
  go_wp2_with fail
  all_goals first
    | (go_end0; refine FVisit.no ?_ (Below.refl _ _); intro hx; simp_all [FOk]; done)
    | (go_end0; refine FVisit.no ?_ (Below.refl _ _); intro hx; simp_all [FOk, FBui]; omega)
    | (refine bodyPost_ret (results_none rfl _ _ _) rfl (FVisit.no ?_ (Below.refl _ _)); intro hx; simp_all [FOk, FBui]; done)
    | (refine bodyPost_ret (results_none rfl _ _ _) rfl (FVisit.no ?_ (Below.refl _ _)); intro hx; simp_all [FOk, FBui]; omega)
    | skip
  go_region_with (go_at_call 37; refine (patchCopyType_any a pr w.heap.size _ _ _ _ _ [findText, (.slice (some ⟨bn, 0, none⟩) n n), .bool true, (.iface 39 (.pointer (some ⟨pm, 0, none⟩))), .pointer none] _ hasMem.1 hasBui.1 hasMem.2 hasBui.2 (aheadBui _) (by rw [alloc_old _ (show a < w.drew.heap.size from lt_of_heap HA.out)]; exact HA.out) (by rw [alloc_old _ (show pr < w.drew.heap.size from lt_of_heap HB.out)]; exact HB.out) (alloc_new w.drew _) (by have := lt_of_heap HA.out; omega) (by have := lt_of_heap HB.out; omega)).mono ?_; rintro e w2 ⟨rfl, hw, h1, h2⟩)
  all_goals
    have hm := Lib.hid (MadeF.of (thr := true) (wm := true) (pm := pm) (lt_of_heap HA.out) hw h1 h2)
    have d0 : w2.cell? ⟨a, 0, none⟩ = some (.iface 77 (.pointer (some ⟨w.heap.size, 0, none⟩))) := by rw [cell_of_block h1]; rfl
    have d1 : w2.cell? ⟨w.heap.size, 11, none⟩ = some (.string ⟨#[102, 105, 110, 100]⟩) := by rw [cell_of_block h2]; rfl
    have d2 : w2.cell? ⟨w.heap.size, 12, none⟩ = some (.slice (some ⟨bn, 0, none⟩) n n) := by rw [cell_of_block h2]; rfl
    clear hw h1 h2
    go_wp2_with fail
    first | go_end0 | refine bodyPost_ret (results_none rfl _ _ _) rfl ?_
    refine Or.inr ⟨?_, hm.out⟩
    first | (simp_all [FOk]; done) | (simp_all [FOk, FBui]; omega)

set_option maxRecDepth 100000 in
set_option maxHeartbeats 2000000 in
theorem ffv_bui_bm (r : Value) (on : ByteArray) (a pr bo m pi bn n : Nat) (inn : ByteArray) (pm : Nat) (w : World) (ha : w.heap[a]? = some (.cells #[(.iface 77 (.pointer (some ⟨pr, 0, none⟩)))] 59 (0, 0))) (hb : w.heap[pr]? = some (.cells (nd0 [.string on, (.slice (some ⟨bo, 0, none⟩) m m), .bool false, .nilIface, .pointer none]) 84 (0, 0)))
    (hi : w.heap[pi]? = some (.cells (nd0 [.string inn, (.slice (some ⟨bn, 0, none⟩) n n), .bool false, (.iface 39 (.pointer (some ⟨pm, 0, none⟩))), .pointer none]) 84 (0, 0))) (hc : 0 < m → w.cell? ⟨bo, 0, none⟩ = some (.iface 77 (.pointer (some ⟨pi, 0, none⟩)))) :
    Calls Tryz.prog 33 #[r, .pointer (some ⟨a, 0, none⟩)] w (FVisit w (FBui 1 on m ∧ FOk 0 inn n) a bn n false true pm) := by
  have c0 : w.cell? ⟨a, 0, none⟩ = some (.iface 77 (.pointer (some ⟨pr, 0, none⟩))) := by rw [cell_of_block ha]; rfl
  have c1 : w.cell? ⟨pr, 11, none⟩ = some (.string on) := by rw [cell_of_block hb]; rfl
  have c2 : w.cell? ⟨pr, 12, none⟩ = some (.slice (some ⟨bo, 0, none⟩) m m) := by rw [cell_of_block hb]; rfl
  have c4 : w.cell? ⟨pi, 11, none⟩ = some (.string inn) := by rw [cell_of_block hi]; rfl
  have c5 : w.cell? ⟨pi, 12, none⟩ = some (.slice (some ⟨bn, 0, none⟩) n n) := by rw [cell_of_block hi]; rfl
  have c6 : w.cell? ⟨pi, 14, none⟩ = some (.iface 39 (.pointer (some ⟨pm, 0, none⟩))) := by rw [cell_of_block hi]; rfl
  by_cases hm : m = 1
  · subst hm
    have c3 := hc (by omega)
    have tBui := ta_hit Tryz.underlying77 59
    have t1 := ta_miss Tryz.underlying89 zMem (show 77 ≠ 89 by decide) 59
    have HA := Lib.hid ha
    have HB := Lib.hid hb
    have HI := Lib.hid hi
    clear ha hb hi hc
    go_enter Tryz.func33, Tryz.ntmps33
    go_wp2_with fail
    all_goals first
      | (go_end0; refine FVisit.no ?_ (Below.refl _ _); intro hx; simp_all [FOk, FBui]; done)
      | (go_end0; refine FVisit.no ?_ (Below.refl _ _); intro hx; simp_all [FOk, FBui]; omega)
      | (refine bodyPost_ret (results_none rfl _ _ _) rfl (FVisit.no ?_ (Below.refl _ _)); intro hx; simp_all [FOk, FBui]; done)
      | (refine bodyPost_ret (results_none rfl _ _ _) rfl (FVisit.no ?_ (Below.refl _ _)); intro hx; simp_all [FOk, FBui]; omega)
      | skip
    go_region_with (go_at_call 37; refine (patchCopyType_any a pr w.heap.size _ _ _ _ _ [findText, (.slice (some ⟨bn, 0, none⟩) n n), .bool false, (.iface 39 (.pointer (some ⟨pm, 0, none⟩))), .pointer none] _ hasBui2.1 hasBui.1 hasBui2.2 hasBui.2 (aheadBui _) (by rw [alloc_old _ (show a < w.drew.heap.size from lt_of_heap HA.out)]; exact HA.out) (by rw [alloc_old _ (show pr < w.drew.heap.size from lt_of_heap HB.out)]; exact HB.out) (alloc_new w.drew _) (by have := lt_of_heap HA.out; omega) (by have := lt_of_heap HB.out; omega)).mono ?_; rintro e w2 ⟨rfl, hw, h1, h2⟩)
    all_goals
      have hm := Lib.hid (MadeF.of (thr := false) (wm := true) (pm := pm) (lt_of_heap HA.out) hw h1 h2)
      clear hw h1 h2
      first | go_end0 | refine bodyPost_ret (results_none rfl _ _ _) rfl ?_
      refine Or.inr ⟨?_, hm.out⟩
      first | (simp_all [FOk, FBui]; done) | (simp_all [FOk, FBui]; omega)
  · have hm' : (((m : Nat) : Int) == 1) = false := by simp; omega
    have tBui := ta_hit Tryz.underlying77 59
    have t1 := ta_miss Tryz.underlying89 zMem (show 77 ≠ 89 by decide) 59
    clear ha hb hi hc
    go_enter Tryz.func33, Tryz.ntmps33
    go_wp2_with fail
    all_goals first
      | (go_end0; refine FVisit.no ?_ (Below.refl _ _); intro hx; simp_all [FOk, FBui]; done)
      | (go_end0; refine FVisit.no ?_ (Below.refl _ _); intro hx; simp_all [FOk, FBui]; omega)
      | (refine bodyPost_ret (results_none rfl _ _ _) rfl (FVisit.no ?_ (Below.refl _ _)); intro hx; simp_all [FOk, FBui]; done)
      | (refine bodyPost_ret (results_none rfl _ _ _) rfl (FVisit.no ?_ (Below.refl _ _)); intro hx; simp_all [FOk, FBui]; omega)
      | skip
end Go.Proofs.YtgpbhigjmkkofaaGreat

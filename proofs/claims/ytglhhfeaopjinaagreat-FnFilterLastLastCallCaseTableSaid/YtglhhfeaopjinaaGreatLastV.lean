/- What filterLast's Visit does to 'on(inn(..), ..)'. Printed by visit53gen.py. -/
import Derived.Test.YtglhhfeaopjinaaGreatLenW
namespace Go.Proofs.YtglhhfeaopjinaaGreat
open Go.RowKit Go.Deep

set_option maxRecDepth 100000 in
set_option maxHeartbeats 2000000 in
theorem fav_n (r : Value) (on : ByteArray) (a pr bo m pi bn n : Nat) (inn : ByteArray) (w : World) (ha : w.heap[a]? = some (.cells #[(.iface 39 (.pointer (some ⟨pr, 0, none⟩)))] 54 (0, 0))) (hb : w.heap[pr]? = some (.cells (nd0 [.string on, (.slice (some ⟨bo, 0, none⟩) m m), .bool false, .nilIface, .pointer none]) 57 (0, 0)))
    (hi : w.heap[pi]? = some (.cells (nd0 [.string inn, (.slice (some ⟨bn, 0, none⟩) n n), .bool false, .nilIface, .pointer none]) 57 (0, 0))) (hc : 0 < m → w.cell? ⟨bo, 0, none⟩ = some (.iface 39 (.pointer (some ⟨pi, 0, none⟩)))) :
    Calls Tryz.prog 22 #[r, .pointer (some ⟨a, 0, none⟩)] w (BVisit w (LastRw on m inn n) ⟨#[102, 105, 110, 100, 76, 97, 115, 116]⟩ a bn n false .nilIface) := by
  have c0 : w.cell? ⟨a, 0, none⟩ = some (.iface 39 (.pointer (some ⟨pr, 0, none⟩))) := by rw [cell_of_block ha]; rfl
  have c1 : w.cell? ⟨pr, 11, none⟩ = some (.string on) := by rw [cell_of_block hb]; rfl
  have c2 : w.cell? ⟨pr, 12, none⟩ = some (.slice (some ⟨bo, 0, none⟩) m m) := by rw [cell_of_block hb]; rfl
  have c4 : w.cell? ⟨pi, 11, none⟩ = some (.string inn) := by rw [cell_of_block hi]; rfl
  have c5 : w.cell? ⟨pi, 12, none⟩ = some (.slice (some ⟨bn, 0, none⟩) n n) := by rw [cell_of_block hi]; rfl
  have c6 : w.cell? ⟨pi, 14, none⟩ = some (.nilIface) := by rw [cell_of_block hi]; rfl
  by_cases hm : m = 1
  · subst hm
    have c3 := hc (by omega)
    have tBui := ta_hit Tryz.underlying39 54
    have t1 := ta_miss Tryz.underlying68 zMem (show 39 ≠ 68 by decide) 54
    have HA := Lib.hid ha
    have HB := Lib.hid hb
    have HI := Lib.hid hi
    clear ha hb hi hc
    go_enter Tryz.func22, Tryz.ntmps22
    go_wp2_with fail
    all_goals first
      | (go_end0; refine BVisit.no ?_ (Below.refl _ _); intro hx; simp_all [LastRw, IsFilter]; done)
      | (go_end0; refine BVisit.no ?_ (Below.refl _ _); intro hx; simp_all [LastRw, IsFilter]; omega)
      | (refine bodyPost_ret (results_none rfl _ _ _) rfl (BVisit.no ?_ (Below.refl _ _)); intro hx; simp_all [LastRw, IsFilter]; done)
      | (refine bodyPost_ret (results_none rfl _ _ _) rfl (BVisit.no ?_ (Below.refl _ _)); intro hx; simp_all [LastRw, IsFilter]; omega)
      | skip
    go_region_with (go_at_call 23; refine (patchCopyType_any a pr w.heap.size _ _ _ _ _ [.string ⟨#[102, 105, 110, 100, 76, 97, 115, 116]⟩, (.slice (some ⟨bn, 0, none⟩) n n), .bool false, .nilIface, .pointer none] _ hasBui2.1 hasBui.1 hasBui2.2 hasBui.2 (aheadBui _) (by rw [alloc_old _ (show a < w.drew.heap.size from lt_of_heap HA.out)]; exact HA.out) (by rw [alloc_old _ (show pr < w.drew.heap.size from lt_of_heap HB.out)]; exact HB.out) (alloc_new w.drew _) (by have := lt_of_heap HA.out; omega) (by have := lt_of_heap HB.out; omega)).mono ?_; rintro e w2 ⟨rfl, hw, h1, h2⟩)
    all_goals
      have hm := Lib.hid (MadeB.of (x := ⟨#[102, 105, 110, 100, 76, 97, 115, 116]⟩) (thr := false) (M := .nilIface) (lt_of_heap HA.out) hw h1 h2)
      clear hw h1 h2
      first | go_end0 | refine bodyPost_ret (results_none rfl _ _ _) rfl ?_
      refine Or.inr ⟨?_, hm.out⟩
      first | (simp_all [LastRw, IsFilter]; done) | (simp_all [LastRw, IsFilter]; omega)
  · have hm' : (((m : Nat) : Int) == 1) = false := by simp; omega
    have tBui := ta_hit Tryz.underlying39 54
    have t1 := ta_miss Tryz.underlying68 zMem (show 39 ≠ 68 by decide) 54
    clear ha hb hi hc
    go_enter Tryz.func22, Tryz.ntmps22
    go_wp2_with fail
    all_goals first
      | (go_end0; refine BVisit.no ?_ (Below.refl _ _); intro hx; simp_all [LastRw, IsFilter]; done)
      | (go_end0; refine BVisit.no ?_ (Below.refl _ _); intro hx; simp_all [LastRw, IsFilter]; omega)
      | (refine bodyPost_ret (results_none rfl _ _ _) rfl (BVisit.no ?_ (Below.refl _ _)); intro hx; simp_all [LastRw, IsFilter]; done)
      | (refine bodyPost_ret (results_none rfl _ _ _) rfl (BVisit.no ?_ (Below.refl _ _)); intro hx; simp_all [LastRw, IsFilter]; omega)
      | skip

set_option maxRecDepth 100000 in
set_option maxHeartbeats 2000000 in
theorem fav_m (r : Value) (on : ByteArray) (a pr bo m pi bn n : Nat) (inn : ByteArray) (pm : Nat) (w : World) (ha : w.heap[a]? = some (.cells #[(.iface 39 (.pointer (some ⟨pr, 0, none⟩)))] 54 (0, 0))) (hb : w.heap[pr]? = some (.cells (nd0 [.string on, (.slice (some ⟨bo, 0, none⟩) m m), .bool false, .nilIface, .pointer none]) 57 (0, 0)))
    (hi : w.heap[pi]? = some (.cells (nd0 [.string inn, (.slice (some ⟨bn, 0, none⟩) n n), .bool false, (.iface 58 (.pointer (some ⟨pm, 0, none⟩))), .pointer none]) 57 (0, 0))) (hc : 0 < m → w.cell? ⟨bo, 0, none⟩ = some (.iface 39 (.pointer (some ⟨pi, 0, none⟩)))) :
    Calls Tryz.prog 22 #[r, .pointer (some ⟨a, 0, none⟩)] w (BVisit w (LastRw on m inn n) ⟨#[102, 105, 110, 100, 76, 97, 115, 116]⟩ a bn n false (.iface 58 (.pointer (some ⟨pm, 0, none⟩)))) := by
  have c0 : w.cell? ⟨a, 0, none⟩ = some (.iface 39 (.pointer (some ⟨pr, 0, none⟩))) := by rw [cell_of_block ha]; rfl
  have c1 : w.cell? ⟨pr, 11, none⟩ = some (.string on) := by rw [cell_of_block hb]; rfl
  have c2 : w.cell? ⟨pr, 12, none⟩ = some (.slice (some ⟨bo, 0, none⟩) m m) := by rw [cell_of_block hb]; rfl
  have c4 : w.cell? ⟨pi, 11, none⟩ = some (.string inn) := by rw [cell_of_block hi]; rfl
  have c5 : w.cell? ⟨pi, 12, none⟩ = some (.slice (some ⟨bn, 0, none⟩) n n) := by rw [cell_of_block hi]; rfl
  have c6 : w.cell? ⟨pi, 14, none⟩ = some (.iface 58 (.pointer (some ⟨pm, 0, none⟩))) := by rw [cell_of_block hi]; rfl
  by_cases hm : m = 1
  · subst hm
    have c3 := hc (by omega)
    have tBui := ta_hit Tryz.underlying39 54
    have t1 := ta_miss Tryz.underlying68 zMem (show 39 ≠ 68 by decide) 54
    have HA := Lib.hid ha
    have HB := Lib.hid hb
    have HI := Lib.hid hi
    clear ha hb hi hc
    go_enter Tryz.func22, Tryz.ntmps22
    go_wp2_with fail
    all_goals first
      | (go_end0; refine BVisit.no ?_ (Below.refl _ _); intro hx; simp_all [LastRw, IsFilter]; done)
      | (go_end0; refine BVisit.no ?_ (Below.refl _ _); intro hx; simp_all [LastRw, IsFilter]; omega)
      | (refine bodyPost_ret (results_none rfl _ _ _) rfl (BVisit.no ?_ (Below.refl _ _)); intro hx; simp_all [LastRw, IsFilter]; done)
      | (refine bodyPost_ret (results_none rfl _ _ _) rfl (BVisit.no ?_ (Below.refl _ _)); intro hx; simp_all [LastRw, IsFilter]; omega)
      | skip
    go_region_with (go_at_call 23; refine (patchCopyType_any a pr w.heap.size _ _ _ _ _ [.string ⟨#[102, 105, 110, 100, 76, 97, 115, 116]⟩, (.slice (some ⟨bn, 0, none⟩) n n), .bool false, (.iface 58 (.pointer (some ⟨pm, 0, none⟩))), .pointer none] _ hasBui2.1 hasBui.1 hasBui2.2 hasBui.2 (aheadBui _) (by rw [alloc_old _ (show a < w.drew.heap.size from lt_of_heap HA.out)]; exact HA.out) (by rw [alloc_old _ (show pr < w.drew.heap.size from lt_of_heap HB.out)]; exact HB.out) (alloc_new w.drew _) (by have := lt_of_heap HA.out; omega) (by have := lt_of_heap HB.out; omega)).mono ?_; rintro e w2 ⟨rfl, hw, h1, h2⟩)
    all_goals
      have hm := Lib.hid (MadeB.of (x := ⟨#[102, 105, 110, 100, 76, 97, 115, 116]⟩) (thr := false) (M := (.iface 58 (.pointer (some ⟨pm, 0, none⟩)))) (lt_of_heap HA.out) hw h1 h2)
      clear hw h1 h2
      first | go_end0 | refine bodyPost_ret (results_none rfl _ _ _) rfl ?_
      refine Or.inr ⟨?_, hm.out⟩
      first | (simp_all [LastRw, IsFilter]; done) | (simp_all [LastRw, IsFilter]; omega)
  · have hm' : (((m : Nat) : Int) == 1) = false := by simp; omega
    have tBui := ta_hit Tryz.underlying39 54
    have t1 := ta_miss Tryz.underlying68 zMem (show 39 ≠ 68 by decide) 54
    clear ha hb hi hc
    go_enter Tryz.func22, Tryz.ntmps22
    go_wp2_with fail
    all_goals first
      | (go_end0; refine BVisit.no ?_ (Below.refl _ _); intro hx; simp_all [LastRw, IsFilter]; done)
      | (go_end0; refine BVisit.no ?_ (Below.refl _ _); intro hx; simp_all [LastRw, IsFilter]; omega)
      | (refine bodyPost_ret (results_none rfl _ _ _) rfl (BVisit.no ?_ (Below.refl _ _)); intro hx; simp_all [LastRw, IsFilter]; done)
      | (refine bodyPost_ret (results_none rfl _ _ _) rfl (BVisit.no ?_ (Below.refl _ _)); intro hx; simp_all [LastRw, IsFilter]; omega)
      | skip

set_option maxRecDepth 100000 in
set_option maxHeartbeats 2000000 in
theorem fav_findLast (r M : Value) (thr : Bool) (a pr bo m : Nat) (w : World) (ha : w.heap[a]? = some (.cells #[(.iface 39 (.pointer (some ⟨pr, 0, none⟩)))] 54 (0, 0))) (hb : w.heap[pr]? = some (.cells (nd anyTy 20 false false [.string ⟨#[102, 105, 110, 100, 76, 97, 115, 116]⟩, (.slice (some ⟨bo, 0, none⟩) m m), .bool thr, M, .pointer none]) 57 (0, 0))) :
    Calls Tryz.prog 22 #[r, (.pointer (some ⟨a, 0, none⟩))] w (Kept w) := by
  have c0 : w.cell? ⟨a, 0, none⟩ = some (.iface 39 (.pointer (some ⟨pr, 0, none⟩))) := by rw [cell_of_block ha]; rfl
  have c1 : w.cell? ⟨pr, 11, none⟩ = some (.string ⟨#[102, 105, 110, 100, 76, 97, 115, 116]⟩) := by rw [cell_of_block hb]; rfl
  have c2 : w.cell? ⟨pr, 12, none⟩ = some (.slice (some ⟨bo, 0, none⟩) m m) := by rw [cell_of_block hb]; rfl
  have tBui := ta_hit Tryz.underlying39 54
  have t1 := ta_miss Tryz.underlying68 zMem (show 39 ≠ 68 by decide) 54
  clear ha hb
  go_enter Tryz.func22, Tryz.ntmps22
  go_wp2_with fail
  all_goals first
    | (go_end0; exact ⟨rfl, Below.refl _ _⟩)
    | (refine bodyPost_ret (results_none rfl _ _ _) rfl ?_; exact ⟨rfl, Below.refl _ _⟩)

set_option maxRecDepth 100000 in
set_option maxHeartbeats 2000000 in
theorem zzLast_n (on : ByteArray) (a pr bo m pi bn n : Nat) (inn : ByteArray) (w : World) (ha : w.heap[a]? = some (.cells #[(.iface 39 (.pointer (some ⟨pr, 0, none⟩)))] 54 (0, 0))) (hb : w.heap[pr]? = some (.cells (nd0 [.string on, (.slice (some ⟨bo, 0, none⟩) m m), .bool false, .nilIface, .pointer none]) 57 (0, 0)))
    (hi : w.heap[pi]? = some (.cells (nd0 [.string inn, (.slice (some ⟨bn, 0, none⟩) n n), .bool false, .nilIface, .pointer none]) 57 (0, 0))) (hc : 0 < m → w.cell? ⟨bo, 0, none⟩ = some (.iface 39 (.pointer (some ⟨pi, 0, none⟩)))) :
    Calls Tryz.prog 16 #[.pointer (some ⟨a, 0, none⟩)] w (BVisit w (LastRw on m inn n) ⟨#[102, 105, 110, 100, 76, 97, 115, 116]⟩ a bn n false .nilIface) := by
  have HA := Lib.hid ha
  have HB := Lib.hid hb
  have HI := Lib.hid hi
  have HC := Lib.hid hc
  clear ha hb hi hc
  go_enter Tryz.func16, Tryz.ntmps16
  go_wp2_with fail
  refine (fav_n _ on a pr bo m pi bn n inn _ (Keeps.alloc _ _ _ _ HA.out) (Keeps.alloc _ _ _ _ HB.out) (Keeps.alloc _ _ _ _ HI.out) (fun h => (Keeps.alloc _ _).cell (HC.out h))).mono ?_
  rintro e w2 hk
  have he := hk.ret
  subst he
  have HV := Lib.hid hk
  clear hk
  go_wp2_with fail
  go_end0
  exact HV.out.pre

set_option maxRecDepth 100000 in
set_option maxHeartbeats 2000000 in
theorem zzLast_m (on : ByteArray) (a pr bo m pi bn n : Nat) (inn : ByteArray) (pm : Nat) (w : World) (ha : w.heap[a]? = some (.cells #[(.iface 39 (.pointer (some ⟨pr, 0, none⟩)))] 54 (0, 0))) (hb : w.heap[pr]? = some (.cells (nd0 [.string on, (.slice (some ⟨bo, 0, none⟩) m m), .bool false, .nilIface, .pointer none]) 57 (0, 0)))
    (hi : w.heap[pi]? = some (.cells (nd0 [.string inn, (.slice (some ⟨bn, 0, none⟩) n n), .bool false, (.iface 58 (.pointer (some ⟨pm, 0, none⟩))), .pointer none]) 57 (0, 0))) (hc : 0 < m → w.cell? ⟨bo, 0, none⟩ = some (.iface 39 (.pointer (some ⟨pi, 0, none⟩)))) :
    Calls Tryz.prog 16 #[.pointer (some ⟨a, 0, none⟩)] w (BVisit w (LastRw on m inn n) ⟨#[102, 105, 110, 100, 76, 97, 115, 116]⟩ a bn n false (.iface 58 (.pointer (some ⟨pm, 0, none⟩)))) := by
  have HA := Lib.hid ha
  have HB := Lib.hid hb
  have HI := Lib.hid hi
  have HC := Lib.hid hc
  clear ha hb hi hc
  go_enter Tryz.func16, Tryz.ntmps16
  go_wp2_with fail
  refine (fav_m _ on a pr bo m pi bn n inn pm _ (Keeps.alloc _ _ _ _ HA.out) (Keeps.alloc _ _ _ _ HB.out) (Keeps.alloc _ _ _ _ HI.out) (fun h => (Keeps.alloc _ _).cell (HC.out h))).mono ?_
  rintro e w2 hk
  have he := hk.ret
  subst he
  have HV := Lib.hid hk
  clear hk
  go_wp2_with fail
  go_end0
  exact HV.out.pre

set_option maxRecDepth 100000 in
set_option maxHeartbeats 2000000 in
theorem zzLast_again (M : Value) (thr : Bool) (a pr bo m : Nat) (w : World) (ha : w.heap[a]? = some (.cells #[(.iface 39 (.pointer (some ⟨pr, 0, none⟩)))] 54 (0, 0))) (hb : w.heap[pr]? = some (.cells (nd anyTy 20 false false [.string ⟨#[102, 105, 110, 100, 76, 97, 115, 116]⟩, (.slice (some ⟨bo, 0, none⟩) m m), .bool thr, M, .pointer none]) 57 (0, 0))) :
    Calls Tryz.prog 16 #[(.pointer (some ⟨a, 0, none⟩))] w (Kept w) := by
  have HA := Lib.hid ha
  have HB := Lib.hid hb
  clear ha hb
  go_enter Tryz.func16, Tryz.ntmps16
  go_wp2_with fail
  refine (fav_findLast _ M thr a pr bo m _ (Keeps.alloc _ _ _ _ HA.out) (Keeps.alloc _ _ _ _ HB.out)).mono ?_
  rintro e w2 hk
  obtain ⟨rfl, hb⟩ := hk
  go_wp2_with fail
  go_end0
  exact Kept.pre ⟨rfl, hb⟩
end Go.Proofs.YtglhhfeaopjinaaGreat

/- What filterLast's Visit does to a member access. Printed by visit53gen.py. -/
import Derived.Test.YtglhhfeaopjinaaGreatLenW
namespace Go.Proofs.YtglhhfeaopjinaaGreat
open Go.RowKit Go.Deep

def MRw (pv : Int) (opt : Bool) (inn : ByteArray) (n : Int) : Prop := pv = -1 ∧ opt = false ∧ IsFilter inn n

set_option maxRecDepth 100000 in
set_option maxHeartbeats 2000000 in
theorem fam_no (r I : Value) (a pr : Nat) (opt : Bool) (w : World) (ha : w.heap[a]? = some (.cells #[(.iface 68 (.pointer (some ⟨pr, 0, none⟩)))] 54 (0, 0))) (hb : w.heap[pr]? = some (.cells (nd0 [I, .nilIface, .bool opt, .bool false]) 70 (0, 0))) :
    Calls Tryz.prog 22 #[r, .pointer (some ⟨a, 0, none⟩)] w (Kept w) := by
  have c0 : w.cell? ⟨a, 0, none⟩ = some (.iface 68 (.pointer (some ⟨pr, 0, none⟩))) := by rw [cell_of_block ha]; rfl
  have c1 : w.cell? ⟨pr, 11, none⟩ = some I := by rw [cell_of_block hb]; rfl
  have c2 : w.cell? ⟨pr, 12, none⟩ = some .nilIface := by rw [cell_of_block hb]; rfl
  have c3 : w.cell? ⟨pr, 13, none⟩ = some (.bool opt) := by rw [cell_of_block hb]; rfl
  have tMem := ta_hit Tryz.underlying68 54
  have tNo := ta_miss Tryz.underlying39 zBui (show 68 ≠ 39 by decide) 54
  have eNil : ∀ w : World, (binOp .neq 54 .nilIface .nilIface).run Tryz.prog w = .ok (.bool false) w := fun w => by kernel_rfl
  clear ha hb c1
  go_enter Tryz.func22, Tryz.ntmps22
  go_wp2_with fail
  all_goals first
    | (go_end0; exact ⟨rfl, Below.refl _ _⟩)
    | (refine bodyPost_ret (results_none rfl _ _ _) rfl ?_; exact ⟨rfl, Below.refl _ _⟩)

set_option maxRecDepth 100000 in
set_option maxHeartbeats 2000000 in
theorem fam_str (r I : Value) (a pr pp : Nat) (opt : Bool) (w : World) (ha : w.heap[a]? = some (.cells #[(.iface 68 (.pointer (some ⟨pr, 0, none⟩)))] 54 (0, 0))) (hb : w.heap[pr]? = some (.cells (nd0 [I, (.iface 74 (.pointer (some ⟨pp, 0, none⟩))), .bool opt, .bool false]) 70 (0, 0))) :
    Calls Tryz.prog 22 #[r, .pointer (some ⟨a, 0, none⟩)] w (Kept w) := by
  have c0 : w.cell? ⟨a, 0, none⟩ = some (.iface 68 (.pointer (some ⟨pr, 0, none⟩))) := by rw [cell_of_block ha]; rfl
  have c1 : w.cell? ⟨pr, 11, none⟩ = some I := by rw [cell_of_block hb]; rfl
  have c2 : w.cell? ⟨pr, 12, none⟩ = some (.iface 74 (.pointer (some ⟨pp, 0, none⟩))) := by rw [cell_of_block hb]; rfl
  have c3 : w.cell? ⟨pr, 13, none⟩ = some (.bool opt) := by rw [cell_of_block hb]; rfl
  have tMem := ta_hit Tryz.underlying68 54
  have tNo := ta_miss Tryz.underlying39 zBui (show 68 ≠ 39 by decide) 54
  have eNil : ∀ w : World, (binOp .neq 54 (.iface 74 (.pointer (some ⟨pp, 0, none⟩))) .nilIface).run Tryz.prog w = .ok (.bool true) w := fun w => by kernel_rfl
  have tInt := ta_miss Tryz.underlying71 zInt (show 74 ≠ 71 by decide) 54
  clear ha hb c1
  go_enter Tryz.func22, Tryz.ntmps22
  go_wp2_with fail
  all_goals first
    | (go_end0; exact ⟨rfl, Below.refl _ _⟩)
    | (refine bodyPost_ret (results_none rfl _ _ _) rfl ?_; exact ⟨rfl, Below.refl _ _⟩)

set_option maxRecDepth 100000 in
set_option maxHeartbeats 2000000 in
theorem fam_num_n (r : Value) (a pr pp pi bn n : Nat) (inn : ByteArray) (pv : Int) (opt : Bool) (w : World) (ha : w.heap[a]? = some (.cells #[(.iface 68 (.pointer (some ⟨pr, 0, none⟩)))] 54 (0, 0))) (hb : w.heap[pr]? = some (.cells (nd0 [(.iface 39 (.pointer (some ⟨pi, 0, none⟩))), (.iface 71 (.pointer (some ⟨pp, 0, none⟩))), .bool opt, .bool false]) 70 (0, 0)))
    (hi : w.heap[pi]? = some (.cells (nd0 [.string inn, (.slice (some ⟨bn, 0, none⟩) n n), .bool false, .nilIface, .pointer none]) 57 (0, 0))) (hp : IntAt w pp pv) :
    Calls Tryz.prog 22 #[r, .pointer (some ⟨a, 0, none⟩)] w (BVisit w (MRw pv opt inn n) ⟨#[102, 105, 110, 100, 76, 97, 115, 116]⟩ a bn n true .nilIface) := by
  have c0 : w.cell? ⟨a, 0, none⟩ = some (.iface 68 (.pointer (some ⟨pr, 0, none⟩))) := by rw [cell_of_block ha]; rfl
  have c1 : w.cell? ⟨pr, 11, none⟩ = some (.iface 39 (.pointer (some ⟨pi, 0, none⟩))) := by rw [cell_of_block hb]; rfl
  have c2 : w.cell? ⟨pr, 12, none⟩ = some (.iface 71 (.pointer (some ⟨pp, 0, none⟩))) := by rw [cell_of_block hb]; rfl
  have c3 : w.cell? ⟨pr, 13, none⟩ = some (.bool opt) := by rw [cell_of_block hb]; rfl
  have c4 : w.cell? ⟨pi, 11, none⟩ = some (.string inn) := by rw [cell_of_block hi]; rfl
  have c5 : w.cell? ⟨pi, 12, none⟩ = some (.slice (some ⟨bn, 0, none⟩) n n) := by rw [cell_of_block hi]; rfl
  have c6 : w.cell? ⟨pi, 14, none⟩ = some (.nilIface) := by rw [cell_of_block hi]; rfl
  have c7 : w.cell? ⟨pp, 11, none⟩ = some (.int .i64 pv) := by rw [cell_of_block hp]; rfl
  have tMem := ta_hit Tryz.underlying68 54
  have tBui := ta_hit Tryz.underlying39 54
  have tInt := ta_hit Tryz.underlying71 54
  have tNo := ta_miss Tryz.underlying39 zBui (show 68 ≠ 39 by decide) 54
  have eNil : ∀ w : World, (binOp .neq 54 (.iface 71 (.pointer (some ⟨pp, 0, none⟩))) .nilIface).run Tryz.prog w = .ok (.bool true) w := fun w => by kernel_rfl
  have HA := Lib.hid ha
  have HB := Lib.hid hb
  have HI := Lib.hid hi
  clear ha hb hi hp
  go_enter Tryz.func22, Tryz.ntmps22
  go_wp2_with fail
  all_goals first
    | (go_end0; refine BVisit.no ?_ (Below.refl _ _); intro hx; simp_all [MRw, IsFilter]; done)
    | (go_end0; refine BVisit.no ?_ (Below.refl _ _); intro hx; simp_all [MRw, IsFilter]; omega)
    | (refine bodyPost_ret (results_none rfl _ _ _) rfl (BVisit.no ?_ (Below.refl _ _)); intro hx; simp_all [MRw, IsFilter]; done)
    | (refine bodyPost_ret (results_none rfl _ _ _) rfl (BVisit.no ?_ (Below.refl _ _)); intro hx; simp_all [MRw, IsFilter]; omega)
    | skip
  go_region_with (go_at_call 23; refine (patchCopyType_any a pr w.heap.size _ _ _ _ _ [.string ⟨#[102, 105, 110, 100, 76, 97, 115, 116]⟩, (.slice (some ⟨bn, 0, none⟩) n n), .bool true, .nilIface, .pointer none] _ hasMem.1 hasBui.1 hasMem.2 hasBui.2 (aheadBui _) (by rw [alloc_old _ (show a < w.drew.heap.size from lt_of_heap HA.out)]; exact HA.out) (by rw [alloc_old _ (show pr < w.drew.heap.size from lt_of_heap HB.out)]; exact HB.out) (alloc_new w.drew _) (by have := lt_of_heap HA.out; omega) (by have := lt_of_heap HB.out; omega)).mono ?_; rintro e w2 ⟨rfl, hw, h1, h2⟩)
  all_goals
    have hm := Lib.hid (MadeB.of (x := ⟨#[102, 105, 110, 100, 76, 97, 115, 116]⟩) (thr := true) (M := .nilIface) (lt_of_heap HA.out) hw h1 h2)
    have d0 : w2.cell? ⟨a, 0, none⟩ = some (.iface 39 (.pointer (some ⟨w.heap.size, 0, none⟩))) := by rw [cell_of_block h1]; rfl
    have d1 : w2.cell? ⟨w.heap.size, 11, none⟩ = some (.string ⟨#[102, 105, 110, 100, 76, 97, 115, 116]⟩) := by rw [cell_of_block h2]; rfl
    have d2 : w2.cell? ⟨w.heap.size, 12, none⟩ = some (.slice (some ⟨bn, 0, none⟩) n n) := by rw [cell_of_block h2]; rfl
    clear hw h1 h2
    go_wp2_with fail
    first | go_end0 | refine bodyPost_ret (results_none rfl _ _ _) rfl ?_
    refine Or.inr ⟨?_, hm.out⟩
    first | (simp_all [MRw, IsFilter]; done) | (simp_all [MRw, IsFilter]; omega)

set_option maxRecDepth 100000 in
set_option maxHeartbeats 2000000 in
theorem fam_num_m (r : Value) (a pr pp pi bn n : Nat) (inn : ByteArray) (pv : Int) (opt : Bool) (pm : Nat) (w : World) (ha : w.heap[a]? = some (.cells #[(.iface 68 (.pointer (some ⟨pr, 0, none⟩)))] 54 (0, 0))) (hb : w.heap[pr]? = some (.cells (nd0 [(.iface 39 (.pointer (some ⟨pi, 0, none⟩))), (.iface 71 (.pointer (some ⟨pp, 0, none⟩))), .bool opt, .bool false]) 70 (0, 0)))
    (hi : w.heap[pi]? = some (.cells (nd0 [.string inn, (.slice (some ⟨bn, 0, none⟩) n n), .bool false, (.iface 58 (.pointer (some ⟨pm, 0, none⟩))), .pointer none]) 57 (0, 0))) (hp : IntAt w pp pv) :
    Calls Tryz.prog 22 #[r, .pointer (some ⟨a, 0, none⟩)] w (BVisit w (MRw pv opt inn n) ⟨#[102, 105, 110, 100, 76, 97, 115, 116]⟩ a bn n true (.iface 58 (.pointer (some ⟨pm, 0, none⟩)))) := by
  have c0 : w.cell? ⟨a, 0, none⟩ = some (.iface 68 (.pointer (some ⟨pr, 0, none⟩))) := by rw [cell_of_block ha]; rfl
  have c1 : w.cell? ⟨pr, 11, none⟩ = some (.iface 39 (.pointer (some ⟨pi, 0, none⟩))) := by rw [cell_of_block hb]; rfl
  have c2 : w.cell? ⟨pr, 12, none⟩ = some (.iface 71 (.pointer (some ⟨pp, 0, none⟩))) := by rw [cell_of_block hb]; rfl
  have c3 : w.cell? ⟨pr, 13, none⟩ = some (.bool opt) := by rw [cell_of_block hb]; rfl
  have c4 : w.cell? ⟨pi, 11, none⟩ = some (.string inn) := by rw [cell_of_block hi]; rfl
  have c5 : w.cell? ⟨pi, 12, none⟩ = some (.slice (some ⟨bn, 0, none⟩) n n) := by rw [cell_of_block hi]; rfl
  have c6 : w.cell? ⟨pi, 14, none⟩ = some (.iface 58 (.pointer (some ⟨pm, 0, none⟩))) := by rw [cell_of_block hi]; rfl
  have c7 : w.cell? ⟨pp, 11, none⟩ = some (.int .i64 pv) := by rw [cell_of_block hp]; rfl
  have tMem := ta_hit Tryz.underlying68 54
  have tBui := ta_hit Tryz.underlying39 54
  have tInt := ta_hit Tryz.underlying71 54
  have tNo := ta_miss Tryz.underlying39 zBui (show 68 ≠ 39 by decide) 54
  have eNil : ∀ w : World, (binOp .neq 54 (.iface 71 (.pointer (some ⟨pp, 0, none⟩))) .nilIface).run Tryz.prog w = .ok (.bool true) w := fun w => by kernel_rfl
  have HA := Lib.hid ha
  have HB := Lib.hid hb
  have HI := Lib.hid hi
  clear ha hb hi hp
  go_enter Tryz.func22, Tryz.ntmps22
  go_wp2_with fail
  all_goals first
    | (go_end0; refine BVisit.no ?_ (Below.refl _ _); intro hx; simp_all [MRw, IsFilter]; done)
    | (go_end0; refine BVisit.no ?_ (Below.refl _ _); intro hx; simp_all [MRw, IsFilter]; omega)
    | (refine bodyPost_ret (results_none rfl _ _ _) rfl (BVisit.no ?_ (Below.refl _ _)); intro hx; simp_all [MRw, IsFilter]; done)
    | (refine bodyPost_ret (results_none rfl _ _ _) rfl (BVisit.no ?_ (Below.refl _ _)); intro hx; simp_all [MRw, IsFilter]; omega)
    | skip
  go_region_with (go_at_call 23; refine (patchCopyType_any a pr w.heap.size _ _ _ _ _ [.string ⟨#[102, 105, 110, 100, 76, 97, 115, 116]⟩, (.slice (some ⟨bn, 0, none⟩) n n), .bool true, (.iface 58 (.pointer (some ⟨pm, 0, none⟩))), .pointer none] _ hasMem.1 hasBui.1 hasMem.2 hasBui.2 (aheadBui _) (by rw [alloc_old _ (show a < w.drew.heap.size from lt_of_heap HA.out)]; exact HA.out) (by rw [alloc_old _ (show pr < w.drew.heap.size from lt_of_heap HB.out)]; exact HB.out) (alloc_new w.drew _) (by have := lt_of_heap HA.out; omega) (by have := lt_of_heap HB.out; omega)).mono ?_; rintro e w2 ⟨rfl, hw, h1, h2⟩)
  all_goals
    have hm := Lib.hid (MadeB.of (x := ⟨#[102, 105, 110, 100, 76, 97, 115, 116]⟩) (thr := true) (M := (.iface 58 (.pointer (some ⟨pm, 0, none⟩)))) (lt_of_heap HA.out) hw h1 h2)
    have d0 : w2.cell? ⟨a, 0, none⟩ = some (.iface 39 (.pointer (some ⟨w.heap.size, 0, none⟩))) := by rw [cell_of_block h1]; rfl
    have d1 : w2.cell? ⟨w.heap.size, 11, none⟩ = some (.string ⟨#[102, 105, 110, 100, 76, 97, 115, 116]⟩) := by rw [cell_of_block h2]; rfl
    have d2 : w2.cell? ⟨w.heap.size, 12, none⟩ = some (.slice (some ⟨bn, 0, none⟩) n n) := by rw [cell_of_block h2]; rfl
    clear hw h1 h2
    go_wp2_with fail
    first | go_end0 | refine bodyPost_ret (results_none rfl _ _ _) rfl ?_
    refine Or.inr ⟨?_, hm.out⟩
    first | (simp_all [MRw, IsFilter]; done) | (simp_all [MRw, IsFilter]; omega)

/-- the property of the member access: none, an integer literal, a string literal -/
def PropAt (w : World) (pk pv : Int) (P : Value) : Prop :=
  (P = .nilIface ∧ pk ≠ 1) ∨ (∃ pp, P = (.iface 74 (.pointer (some ⟨pp, 0, none⟩))) ∧ pk ≠ 1) ∨ (∃ pp, P = (.iface 71 (.pointer (some ⟨pp, 0, none⟩))) ∧ pk = 1 ∧ IntAt w pp pv)
theorem PropAt.move {w w' : World} {pk pv : Int} {P : Value} (h : PropAt w pk pv P) (hk : Keeps w w') : PropAt w' pk pv P := by
  rcases h with h | h | ⟨pp, h1, h2, h3⟩
  · exact Or.inl h
  · exact Or.inr (Or.inl h)
  · exact Or.inr (Or.inr ⟨pp, h1, h2, hk _ _ h3⟩)

theorem fam_all_n (r P : Value) (a pr pi bn n : Nat) (inn : ByteArray) (pk pv : Int) (opt : Bool) (w : World) (ha : w.heap[a]? = some (.cells #[(.iface 68 (.pointer (some ⟨pr, 0, none⟩)))] 54 (0, 0))) (hb : w.heap[pr]? = some (.cells (nd0 [(.iface 39 (.pointer (some ⟨pi, 0, none⟩))), P, .bool opt, .bool false]) 70 (0, 0)))
    (hi : w.heap[pi]? = some (.cells (nd0 [.string inn, (.slice (some ⟨bn, 0, none⟩) n n), .bool false, .nilIface, .pointer none]) 57 (0, 0))) (hp : PropAt w pk pv P) :
    Calls Tryz.prog 22 #[r, .pointer (some ⟨a, 0, none⟩)] w (BVisit w (MemRw pk pv opt inn n) ⟨#[102, 105, 110, 100, 76, 97, 115, 116]⟩ a bn n true .nilIface) := by
  rcases hp with ⟨rfl, h⟩ | ⟨pp, rfl, h⟩ | ⟨pp, rfl, h, h'⟩
  · exact (fam_no r _ a pr opt w ha hb).mono fun e w' hk => Or.inl ⟨fun x => h x.1, hk⟩
  · exact (fam_str r _ a pr pp opt w ha hb).mono fun e w' hk => Or.inl ⟨fun x => h x.1, hk⟩
  · exact (fam_num_n r a pr pp pi bn n inn pv opt w ha hb hi h').mono fun e w' hk => hk.elim (fun y => Or.inl ⟨fun x => y.1 x.2, y.2⟩) (fun y => Or.inr ⟨⟨h, y.1⟩, y.2⟩)

set_option maxRecDepth 100000 in
set_option maxHeartbeats 2000000 in
theorem zzMem_n (P : Value) (a pr pi bn n : Nat) (inn : ByteArray) (pk pv : Int) (opt : Bool) (w : World) (ha : w.heap[a]? = some (.cells #[(.iface 68 (.pointer (some ⟨pr, 0, none⟩)))] 54 (0, 0))) (hb : w.heap[pr]? = some (.cells (nd0 [(.iface 39 (.pointer (some ⟨pi, 0, none⟩))), P, .bool opt, .bool false]) 70 (0, 0)))
    (hi : w.heap[pi]? = some (.cells (nd0 [.string inn, (.slice (some ⟨bn, 0, none⟩) n n), .bool false, .nilIface, .pointer none]) 57 (0, 0))) (hp : PropAt w pk pv P) :
    Calls Tryz.prog 16 #[.pointer (some ⟨a, 0, none⟩)] w (BVisit w (MemRw pk pv opt inn n) ⟨#[102, 105, 110, 100, 76, 97, 115, 116]⟩ a bn n true .nilIface) := by
  have HA := Lib.hid ha
  have HB := Lib.hid hb
  have HI := Lib.hid hi
  have HP := Lib.hid hp
  clear ha hb hi hp
  go_enter Tryz.func16, Tryz.ntmps16
  go_wp2_with fail
  refine (fam_all_n _ P a pr pi bn n inn pk pv opt _ (Keeps.alloc _ _ _ _ HA.out) (Keeps.alloc _ _ _ _ HB.out) (Keeps.alloc _ _ _ _ HI.out) (HP.out.move (Keeps.alloc _ _))).mono ?_
  rintro e w2 hk
  have he := hk.ret
  subst he
  have HV := Lib.hid hk
  clear hk
  go_wp2_with fail
  go_end0
  exact HV.out.pre

theorem fam_all_m (r P : Value) (a pr pi bn n : Nat) (inn : ByteArray) (pk pv : Int) (opt : Bool) (pm : Nat) (w : World) (ha : w.heap[a]? = some (.cells #[(.iface 68 (.pointer (some ⟨pr, 0, none⟩)))] 54 (0, 0))) (hb : w.heap[pr]? = some (.cells (nd0 [(.iface 39 (.pointer (some ⟨pi, 0, none⟩))), P, .bool opt, .bool false]) 70 (0, 0)))
    (hi : w.heap[pi]? = some (.cells (nd0 [.string inn, (.slice (some ⟨bn, 0, none⟩) n n), .bool false, (.iface 58 (.pointer (some ⟨pm, 0, none⟩))), .pointer none]) 57 (0, 0))) (hp : PropAt w pk pv P) :
    Calls Tryz.prog 22 #[r, .pointer (some ⟨a, 0, none⟩)] w (BVisit w (MemRw pk pv opt inn n) ⟨#[102, 105, 110, 100, 76, 97, 115, 116]⟩ a bn n true (.iface 58 (.pointer (some ⟨pm, 0, none⟩)))) := by
  rcases hp with ⟨rfl, h⟩ | ⟨pp, rfl, h⟩ | ⟨pp, rfl, h, h'⟩
  · exact (fam_no r _ a pr opt w ha hb).mono fun e w' hk => Or.inl ⟨fun x => h x.1, hk⟩
  · exact (fam_str r _ a pr pp opt w ha hb).mono fun e w' hk => Or.inl ⟨fun x => h x.1, hk⟩
  · exact (fam_num_m r a pr pp pi bn n inn pv opt pm w ha hb hi h').mono fun e w' hk => hk.elim (fun y => Or.inl ⟨fun x => y.1 x.2, y.2⟩) (fun y => Or.inr ⟨⟨h, y.1⟩, y.2⟩)

set_option maxRecDepth 100000 in
set_option maxHeartbeats 2000000 in
theorem zzMem_m (P : Value) (a pr pi bn n : Nat) (inn : ByteArray) (pk pv : Int) (opt : Bool) (pm : Nat) (w : World) (ha : w.heap[a]? = some (.cells #[(.iface 68 (.pointer (some ⟨pr, 0, none⟩)))] 54 (0, 0))) (hb : w.heap[pr]? = some (.cells (nd0 [(.iface 39 (.pointer (some ⟨pi, 0, none⟩))), P, .bool opt, .bool false]) 70 (0, 0)))
    (hi : w.heap[pi]? = some (.cells (nd0 [.string inn, (.slice (some ⟨bn, 0, none⟩) n n), .bool false, (.iface 58 (.pointer (some ⟨pm, 0, none⟩))), .pointer none]) 57 (0, 0))) (hp : PropAt w pk pv P) :
    Calls Tryz.prog 16 #[.pointer (some ⟨a, 0, none⟩)] w (BVisit w (MemRw pk pv opt inn n) ⟨#[102, 105, 110, 100, 76, 97, 115, 116]⟩ a bn n true (.iface 58 (.pointer (some ⟨pm, 0, none⟩)))) := by
  have HA := Lib.hid ha
  have HB := Lib.hid hb
  have HI := Lib.hid hi
  have HP := Lib.hid hp
  clear ha hb hi hp
  go_enter Tryz.func16, Tryz.ntmps16
  go_wp2_with fail
  refine (fam_all_m _ P a pr pi bn n inn pk pv opt pm _ (Keeps.alloc _ _ _ _ HA.out) (Keeps.alloc _ _ _ _ HB.out) (Keeps.alloc _ _ _ _ HI.out) (HP.out.move (Keeps.alloc _ _))).mono ?_
  rintro e w2 hk
  have he := hk.ret
  subst he
  have HV := Lib.hid hk
  clear hk
  go_wp2_with fail
  go_end0
  exact HV.out.pre
end Go.Proofs.YtglhhfeaopjinaaGreat

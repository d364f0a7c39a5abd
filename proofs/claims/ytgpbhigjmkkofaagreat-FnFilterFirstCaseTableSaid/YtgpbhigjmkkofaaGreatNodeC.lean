/- Location, SetLocation, Patch and patchCopyType at nodes whose blocks are known. -/
import Derived.Test.YtgpbhigjmkkofaaGreatNodeB
namespace Go.Proofs.YtgpbhigjmkkofaaGreat
open Go.RowKit

theorem set_same {c : Array Value} {i : Nat} {v : Value} (h : c[i]? = some v) : c.setIfInBounds i v = c := by
  apply Array.ext_getElem?
  intro j
  rw [Array.getElem?_setIfInBounds]
  split
  · subst_vars; rw [h]; have := (Array.getElem?_eq_some_iff.1 h).1; simp [this]
  · rfl

set_option maxRecDepth 100000 in
set_option maxHeartbeats 400000 in
theorem location_any (p : Nat) (c : Array Value) (T : TypeId) (w : World) (hp : w.heap[p]? = some (.cells c T (0, 0))) (h0 : c[0]? = some (.int .i64 0)) (h1 : c[1]? = some (.int .i64 0)) :
    Calls Tryz.prog 83 #[.pointer (some ⟨p, 0, none⟩)] w fun e w' => e = .returned (.agg #[.int .i64 0, .int .i64 0]) ∧ Below w.heap.size w w' := by
  have c0 : w.cell? ⟨p, 0, none⟩ = some (.int .i64 0) := by rw [cell_of_block hp]; exact h0
  have c1 : w.cell? ⟨p, 1, none⟩ = some (.int .i64 0) := by rw [cell_of_block hp]; exact h1
  have hlt := lt_of_heap hp
  clear h0 h1 hp
  go_enter Tryz.func83, Tryz.ntmps83
  go_wp2_with fail
  exact bodyPost_ret (v := .agg #[.int .i64 0, .int .i64 0]) (by simp [results, Tryz.results83, go_sem]) rfl ⟨rfl, by
    exact (Below.refl _ _).alloc (Nat.le_refl _) _⟩

set_option maxRecDepth 100000 in
set_option maxHeartbeats 400000 in
theorem setLocation_any (q : Nat) (c : Array Value) (T : TypeId) (w : World) (hq : w.heap[q]? = some (.cells c T (0, 0))) (h0 : c[0]? = some (.int .i64 0)) (h1 : c[1]? = some (.int .i64 0)) :
    Calls Tryz.prog 85 #[.pointer (some ⟨q, 0, none⟩), .agg #[.int .i64 0, .int .i64 0]] w fun e w' => e = .returned (.tuple #[]) ∧ Wr [q] w w' ∧ w'.heap[q]? = some (.cells c T (0, 0)) := by
  have c0 : w.cell? ⟨q, 0, none⟩ = some (.int .i64 0) := by rw [cell_of_block hq]; exact h0
  have c1 : w.cell? ⟨q, 1, none⟩ = some (.int .i64 0) := by rw [cell_of_block hq]; exact h1
  have f0 := free_of_block hq 0
  have f1 := free_of_block hq 1
  have hlt := lt_of_heap hq
  have hne : q ≠ w.heap.size := by omega
  have HQ := Lib.hid hq
  have H0 := Lib.hid h0
  have H1 := Lib.hid h1
  clear hq h0 h1
  go_enter Tryz.func85, Tryz.ntmps85
  go_wp2_with fail
  go_end0
  refine ⟨rfl, (((Wr.refl _ _).set (by simp) _).set (by simp) _).alloc _, ?_⟩
  rw [alloc_old _ (by rw [set_size, set_size]; exact hlt), set_block (set_block HQ.out _ _) _ _, set_same H0.out, set_same H1.out]

/-- a method of a node, whatever the node's own type: the method's own function, the base's address -/
def Has (T : TypeId) (m : String) (f : FuncId) : Prop :=
  ∀ (p : Nat) (w : World), (method 880 T (.pointer (some ⟨p, 0, none⟩)) m).run Tryz.prog w = .ok (f, .pointer (some ⟨p, 0, none⟩)) w

set_option maxRecDepth 100000 in
set_option maxHeartbeats 400000 in
theorem patch_any (a p q : Nat) (T1 T2 t1 t2 : TypeId) (c1 c2 : Array Value) (w : World)
    (hL : Has T1 "Location" 83) (hS : Has T2 "SetLocation" 85)
    (hnil : ∀ w, (nilAhead 880 T2 (.pointer (some ⟨q, 0, none⟩)) "SetLocation").run Tryz.prog w = .ok (some false) w)
    (ha : w.heap[a]? = some (.cells #[.iface T1 (.pointer (some ⟨p, 0, none⟩))] 59 (0, 0)))
    (hp : w.heap[p]? = some (.cells c1 t1 (0, 0))) (hq : w.heap[q]? = some (.cells c2 t2 (0, 0)))
    (h0 : c1[0]? = some (.int .i64 0)) (h1 : c1[1]? = some (.int .i64 0)) (g0 : c2[0]? = some (.int .i64 0)) (g1 : c2[1]? = some (.int .i64 0)) (haq : a ≠ q) :
    Calls Tryz.prog 39 #[.pointer (some ⟨a, 0, none⟩), .iface T2 (.pointer (some ⟨q, 0, none⟩))] w fun e w' => e = .returned (.tuple #[]) ∧ Wr [a, q] w w' ∧
      w'.heap[a]? = some (.cells #[.iface T2 (.pointer (some ⟨q, 0, none⟩))] 59 (0, 0)) ∧ w'.heap[q]? = some (.cells c2 t2 (0, 0)) := by
  have ca : w.cell? ⟨a, 0, none⟩ = some (.iface T1 (.pointer (some ⟨p, 0, none⟩))) := by rw [cell_of_block ha]; rfl
  have fa := free_of_block ha 0
  have hmf : ∀ (fn : Fn) (first cap : Array Value) (w : World), (Instr.makeFunc fn first cap).run Tryz.prog w = .ok (.func fn first cap) w := fun _ _ _ _ => rfl
  have hL' := hL p
  have hS' := hS q
  have HA := Lib.hid ha
  have HP := Lib.hid hp
  have HQ := Lib.hid hq
  have H0 := Lib.hid h0
  have H1 := Lib.hid h1
  have G0 := Lib.hid g0
  have G1 := Lib.hid g1
  clear hL hS ha hp hq h0 h1 g0 g1
  go_enter Tryz.func39, Tryz.ntmps39
  go_wp2_with fail
  go_region_with (first
    | (go_at_call 83; refine (location_any p _ _ _ (show w.drew.heap[p]? = _ from HP.out) H0.out H1.out).mono ?_; rintro e w1 ⟨rfl, hb⟩)
    | (go_at_call 85; refine (setLocation_any q c2 t2 w1 (below_keep hb (show w.drew.heap[q]? = _ from HQ.out)) G0.out G1.out).mono ?_; rintro e w2 ⟨rfl, hw, hq2⟩))
  all_goals
    have ha2 := hw.keep (below_keep hb (show w.drew.heap[a]? = _ from HA.out)) (by simpa using haq)
    have ca2 : w2.cell? ⟨a, 0, none⟩ = some (.iface T1 (.pointer (some ⟨p, 0, none⟩))) := by rw [cell_of_block ha2]; rfl
    have fa2 := free_of_block ha2 0
    have HQ2 := Lib.hid hq2
    have HA2 := Lib.hid ha2
    have hwr : Wr [a, q] w w2 := (Wr.of_below (L := [a, q]) ((Below.refl w.heap.size w).drew.trans hb)).trans hw (by simp)
    clear hq2 ha2 hw
    go_wp2_with fail
    go_end0
    refine ⟨rfl, hwr.set (by simp) _, ?_, ?_⟩
    · exact set_block HA2.out 0 _
    · rw [set_other (fun e => haq e.symm)]; exact HQ2.out

set_option maxRecDepth 100000 in
set_option maxHeartbeats 400000 in
theorem patchCopyType_any (a p q : Nat) (T1 T2 t1 t2 : TypeId) (r1 r2 : List Value) (w : World)
    (hT : Has T1 "Type" 89) (hU : Has T2 "SetType" 87)
    (hL : Has T1 "Location" 83) (hS : Has T2 "SetLocation" 85)
    (hnil : ∀ w, (nilAhead 880 T2 (.pointer (some ⟨q, 0, none⟩)) "SetLocation").run Tryz.prog w = .ok (some false) w)
    (ha : w.heap[a]? = some (.cells #[.iface T1 (.pointer (some ⟨p, 0, none⟩))] 59 (0, 0)))
    (hp : w.heap[p]? = some (.cells (nd0 r1) t1 (0, 0))) (hq : w.heap[q]? = some (.cells (nd0 r2) t2 (0, 0))) (haq : a ≠ q) (hpq : p ≠ q) :
    Calls Tryz.prog 37 #[.pointer (some ⟨a, 0, none⟩), .iface T2 (.pointer (some ⟨q, 0, none⟩))] w fun e w' => e = .returned (.tuple #[]) ∧ Wr [a, q] w w' ∧
      w'.heap[a]? = some (.cells #[.iface T2 (.pointer (some ⟨q, 0, none⟩))] 59 (0, 0)) ∧ w'.heap[q]? = some (.cells (nd anyTy 20 false false r2) t2 (0, 0)) := by
  have ca : w.cell? ⟨a, 0, none⟩ = some (.iface T1 (.pointer (some ⟨p, 0, none⟩))) := by rw [cell_of_block ha]; rfl
  have cp : w.cell? ⟨p, 2, none⟩ = some .nilIface := by rw [cell_of_block hp]; rfl
  have hT' := hT p
  have hU' := hU q
  have HA := Lib.hid ha
  have HP := Lib.hid hp
  have HQ := Lib.hid hq
  clear hT hU ha hp hq
  go_enter Tryz.func37, Tryz.ntmps37
  go_wp2_with fail
  refine (type_any p _ cp).mono ?_
  rintro e w1 ⟨rfl, hb⟩
  go_wp2_with fail
  refine (setType_any q _ _ w1 (below_keep hb HQ.out) (by simp [nd])).mono ?_
  rintro e w2 ⟨rfl, hw, hq2⟩
  rw [setNat_nd] at hq2
  have HA2 := Lib.hid (hw.keep (below_keep hb HA.out) (by simpa using haq))
  have HP2 := Lib.hid (hw.keep (below_keep hb HP.out) (by simpa using hpq))
  have HQ2 := Lib.hid hq2
  have HW := Lib.hid hw
  clear hq2 hw
  go_wp2_with fail
  refine (patch_any a p q T1 T2 t1 t2 _ _ w2 hL hS hnil HA2.out HP2.out HQ2.out rfl rfl rfl rfl haq).mono ?_
  rintro e w3 ⟨rfl, hw3, ha3, hq3⟩
  have HA3 := Lib.hid ha3
  have HQ3 := Lib.hid hq3
  have HW3 := Lib.hid hw3
  clear ha3 hq3 hw3
  go_wp2_with fail
  go_end0
  exact ⟨rfl, ((Wr.of_below (L := [a, q]) hb).trans HW.out (by simp)).trans HW3.out (by simp), HA3.out, HQ3.out⟩
end Go.Proofs.YtgpbhigjmkkofaaGreat

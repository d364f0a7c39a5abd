/- Floatify: SetType without a type; the walk at an integer leaf. -/
import Derived.Test.YtpjbeenakkfcfaaGreatFloT
namespace Go.Proofs.YtpjbeenakkfcfaaGreat
open Go.RowKit Go.Deep

theorem getCell {w : World} {q : Nat} {c : Array Value} {T : TypeId} {f : Nat × Nat} (h : w.heap[q]? = some (.cells c T f)) {i : Nat} (hi : i < c.size) : ∃ v, w.cell? ⟨q, i, none⟩ = some v := ⟨_, by rw [cell_of_block h, Array.getElem?_eq_getElem hi]⟩

set_option maxRecDepth 100000 in
set_option maxHeartbeats 1000000 in
/-- a node whose nature is the one without a type stays as it is -/
theorem setType_nil (q : Nat) (r : List Value) (T : TypeId) (w : World) (hq : w.heap[q]? = some (.cells (nd0 r) T (0, 0))) :
    Calls Tryz.prog 61 #[.pointer (some ⟨q, 0, none⟩), .nilIface] w fun e w' => e = .returned (.tuple #[]) ∧ Wr [q] w w' ∧ w'.heap[q]? = some (.cells (nd0 r) T (0, 0)) := by
  go_enter Tryz.func61, Tryz.ntmps61
  go_wp2_with fail
  refine (fromType_nil _).mono ?_
  rintro e w1 ⟨rfl, hb⟩
  have hq1 := below_keep hb hq
  have c2 : w1.cell? ⟨q, 2, none⟩ = some .nilIface := by rw [cell_of_block hq1]; rfl
  have c3 : w1.cell? ⟨q, 3, none⟩ = some (.int .u64 0) := by rw [cell_of_block hq1]; rfl
  have c4 : w1.cell? ⟨q, 4, none⟩ = some (.pointer none) := by rw [cell_of_block hq1]; rfl
  have c5 : w1.cell? ⟨q, 5, none⟩ = some (.pointer none) := by rw [cell_of_block hq1]; rfl
  have c6 : w1.cell? ⟨q, 6, none⟩ = some (.bool false) := by rw [cell_of_block hq1]; rfl
  have c7 : w1.cell? ⟨q, 7, none⟩ = some (.bool false) := by rw [cell_of_block hq1]; rfl
  have c8 : w1.cell? ⟨q, 8, none⟩ = some (.bool false) := by rw [cell_of_block hq1]; rfl
  have c9 : w1.cell? ⟨q, 9, none⟩ = some (.bool false) := by rw [cell_of_block hq1]; rfl
  have c10 : w1.cell? ⟨q, 10, none⟩ = some (.bool false) := by rw [cell_of_block hq1]; rfl
  have f2 := free_of_block hq1 2
  have f3 := free_of_block hq1 3
  have f4 := free_of_block hq1 4
  have f5 := free_of_block hq1 5
  have f6 := free_of_block hq1 6
  have f7 := free_of_block hq1 7
  have f8 := free_of_block hq1 8
  have f9 := free_of_block hq1 9
  have f10 := free_of_block hq1 10
  have HQ1 := Lib.hid hq1
  have HB := Lib.hid hb
  clear hq hq1 hb
  go_wp2_with fail
  go_end0
  refine ⟨rfl, ?_, ?_⟩
  · have h0 : Wr [q] w w1 := Wr.of_below HB.out
    exact ((((((((h0.set (by simp) _).set (by simp) _).set (by simp) _).set (by simp) _).set (by simp) _).set (by simp) _).set (by simp) _).set (by simp) _).set (by simp) _
  · refine (set_block (set_block (set_block (set_block (set_block (set_block (set_block (set_block (set_block HQ1.out _ _) _ _) _ _) _ _) _ _) _ _) _ _) _ _) _ _).trans ?_
    simp [nd0]

/-- what the walk leaves at a leaf: a new float node in the slot -/
def LeafPost (w : World) (b off : Nat) (c : Array Value) (t : TypeId) (v : Int) (e : Ending) (w' : World) : Prop :=
  e = .returned (.tuple #[]) ∧ ∃ q, w.heap.size ≤ q ∧ Wr [b] w w' ∧ w'.heap[b]? = some (.cells (c.setIfInBounds off (.iface 56 (.pointer (some ⟨q, 0, none⟩)))) t (0, 0)) ∧ FloatAt w' q (floatOfInt .f64 v)

theorem LeafPost.of {w w2 : World} {b off : Nat} {c : Array Value} {t : TypeId} {v : Int} {o : Obj} {f : Obj} (ha : w.heap[b]? = some (.cells c t (0, 0)))
    (hw : Wr [w.heap.size + 1] (((w.setCell ⟨b, off, none⟩ (.iface 56 (.pointer (some ⟨w.heap.size + 1, 0, none⟩)))).alloc o).alloc f) w2) (hq : FloatAt w2 (w.heap.size + 1) (floatOfInt .f64 v)) : LeafPost w b off c t v (.returned (.tuple #[])) w2 := by
  have hl := lt_of_heap ha
  refine ⟨rfl, w.heap.size + 1, by omega, ((((Wr.refl [b] w).set (by simp) _).alloc o).alloc f).trans hw (by intro x hx hlt; simp at hx; omega), ?_, hq⟩
  refine hw.keep ?_ (by simp; omega)
  rw [alloc_old _ (by rw [alloc_size, set_size]; omega), alloc_old _ (by rw [set_size]; omega)]
  exact set_block ha _ _

set_option maxRecDepth 100000 in
set_option maxHeartbeats 1000000 in
theorem trav_leaf (b off l : Nat) (c : Array Value) (t : TypeId) (v : Int) (w : World) (ha : w.heap[b]? = some (.cells c t (0, 0))) (hc : c[off]? = some (.iface 53 (.pointer (some ⟨l, 0, none⟩)))) (hl : IntAt w l v) :
    Calls Tryz.prog 16 #[.pointer (some ⟨b, off, none⟩), .agg nat0] w (LeafPost w b off c t v) := by
  have c0 : w.cell? ⟨b, off, none⟩ = some (.iface 53 (.pointer (some ⟨l, 0, none⟩))) := by rw [cell_of_block ha, hc]
  have c1 : w.cell? ⟨l, 11, none⟩ = some (.int .i64 v) := by rw [cell_of_block hl]; rfl
  have f0 := free_of_block ha off
  have l0 : b < w.heap.size := lt_of_heap ha
  have l3 : l < w.heap.size := lt_of_heap hl
  have l1 : b < w.heap.size + 1 := by omega
  have l2 : b < w.heap.size + 1 + 1 := by omega
  have tInt := ta_hit Tryz.underlying53 41
  have oInt := ta_one Tryz.underlying53 41
  have h1 := hasFlo
  have h2 := aheadFlo
  have HA := Lib.hid ha
  clear ha hc hl
  go_enter Tryz.func16, Tryz.ntmps16
  go_wp2_with fail
  go_region_with (go_at_call 61; refine (setType_nil (w.heap.size + 1) [.float .f64 (floatOfInt .f64 v)] 71 _ (by show (((w.setCell _ _).alloc _).alloc _).heap[w.heap.size + 1]? = _; exact alloc_new' (by simp only [alloc_size, set_size]))).mono ?_; rintro e w2 ⟨rfl, hw, hq2⟩)
  all_goals
    go_end0
    exact LeafPost.of HA.out (show Wr [w.heap.size + 1] (((w.setCell _ _).alloc _).alloc _) w2 from ⟨hw.os, hw.tape, hw.output, hw.size, hw.block⟩) hq2
end Go.Proofs.YtpjbeenakkfcfaaGreat

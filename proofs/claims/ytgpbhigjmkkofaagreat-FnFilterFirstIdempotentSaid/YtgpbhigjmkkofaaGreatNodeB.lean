/- SetType, Location, SetLocation, Patch and patchCopyType at nodes whose blocks are known. -/
import Derived.Test.YtgpbhigjmkkofaaGreatNode
namespace Go.Proofs.YtgpbhigjmkkofaaGreat
open Go.RowKit

/-- nine cells of a block set, from cell 2 on: the nature -/
def setNat (c : Array Value) (ty : Value) (k : Int) (i f : Bool) : Array Value :=
  ((((((((c.setIfInBounds 2 ty).setIfInBounds 3 (.int .u64 k)).setIfInBounds 4 (.pointer none)).setIfInBounds 5 (.pointer none)).setIfInBounds 6 (.bool false)).setIfInBounds 7 (.bool false)).setIfInBounds 8 (.bool false)).setIfInBounds 9 (.bool i)).setIfInBounds 10 (.bool f)

theorem setNat_nd (ty : Value) (k : Int) (i f : Bool) (r : List Value) : setNat (nd0 r) ty k i f = nd ty k i f r := by
  simp [setNat, nd]

theorem nd_at (ty : Value) (k : Int) (i f : Bool) (r : List Value) (j : Nat) : (nd ty k i f r)[11 + j]? = r[j]? := by
  simp only [nd, List.getElem?_toArray]
  rw [List.getElem?_append_right (by simp)]
  simp

set_option maxRecDepth 100000 in
set_option maxHeartbeats 1000000 in
theorem setType_any (q : Nat) (c : Array Value) (T : TypeId) (w : World) (hq : w.heap[q]? = some (.cells c T (0, 0))) (hs : 11 ≤ c.size) :
    Calls Tryz.prog 87 #[.pointer (some ⟨q, 0, none⟩), anyTy] w fun e w' => e = .returned (.tuple #[]) ∧ Wr [q] w w' ∧ w'.heap[q]? = some (.cells (setNat c anyTy 20 false false) T (0, 0)) := by
  go_enter Tryz.func87, Tryz.ntmps87
  go_wp2_with fail
  refine (fromType_any _).mono ?_
  rintro e w1 ⟨rfl, hb⟩
  have hq1 := below_keep hb hq
  have c2 : ∃ v, w1.cell? ⟨q, 2, none⟩ = some v := ⟨_, by rw [cell_of_block hq1, Array.getElem?_eq_getElem (by omega)]⟩
  have c3 : ∃ v, w1.cell? ⟨q, 3, none⟩ = some v := ⟨_, by rw [cell_of_block hq1, Array.getElem?_eq_getElem (by omega)]⟩
  have c4 : ∃ v, w1.cell? ⟨q, 4, none⟩ = some v := ⟨_, by rw [cell_of_block hq1, Array.getElem?_eq_getElem (by omega)]⟩
  have c5 : ∃ v, w1.cell? ⟨q, 5, none⟩ = some v := ⟨_, by rw [cell_of_block hq1, Array.getElem?_eq_getElem (by omega)]⟩
  have c6 : ∃ v, w1.cell? ⟨q, 6, none⟩ = some v := ⟨_, by rw [cell_of_block hq1, Array.getElem?_eq_getElem (by omega)]⟩
  have c7 : ∃ v, w1.cell? ⟨q, 7, none⟩ = some v := ⟨_, by rw [cell_of_block hq1, Array.getElem?_eq_getElem (by omega)]⟩
  have c8 : ∃ v, w1.cell? ⟨q, 8, none⟩ = some v := ⟨_, by rw [cell_of_block hq1, Array.getElem?_eq_getElem (by omega)]⟩
  have c9 : ∃ v, w1.cell? ⟨q, 9, none⟩ = some v := ⟨_, by rw [cell_of_block hq1, Array.getElem?_eq_getElem (by omega)]⟩
  have c10 : ∃ v, w1.cell? ⟨q, 10, none⟩ = some v := ⟨_, by rw [cell_of_block hq1, Array.getElem?_eq_getElem (by omega)]⟩
  obtain ⟨v2, c2⟩ := c2
  obtain ⟨v3, c3⟩ := c3
  obtain ⟨v4, c4⟩ := c4
  obtain ⟨v5, c5⟩ := c5
  obtain ⟨v6, c6⟩ := c6
  obtain ⟨v7, c7⟩ := c7
  obtain ⟨v8, c8⟩ := c8
  obtain ⟨v9, c9⟩ := c9
  obtain ⟨v10, c10⟩ := c10
  have f2 := free_of_block hq1 2
  have f3 := free_of_block hq1 3
  have f4 := free_of_block hq1 4
  have f5 := free_of_block hq1 5
  have f6 := free_of_block hq1 6
  have f7 := free_of_block hq1 7
  have f8 := free_of_block hq1 8
  have f9 := free_of_block hq1 9
  have f10 := free_of_block hq1 10
  have HQ := Lib.hid hq
  have HQ1 := Lib.hid hq1
  clear hq hq1
  go_wp2_with fail
  go_end0
  refine ⟨rfl, ?_, ?_⟩
  · have h0 : Wr [q] w w1 := Wr.of_below hb
    exact ((((((((h0.set (by simp) _).set (by simp) _).set (by simp) _).set (by simp) _).set (by simp) _).set (by simp) _).set (by simp) _).set (by simp) _).set (by simp) _
  · exact set_block (set_block (set_block (set_block (set_block (set_block (set_block (set_block (set_block HQ1.out _ _) _ _) _ _) _ _) _ _) _ _) _ _) _ _) _ _
end Go.Proofs.YtgpbhigjmkkofaaGreat

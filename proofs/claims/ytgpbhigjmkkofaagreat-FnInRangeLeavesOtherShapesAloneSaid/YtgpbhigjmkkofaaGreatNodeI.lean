/- SetType at int and at string: what it writes. -/
import Derived.Test.YtgpbhigjmkkofaaGreatNodeB
namespace Go.Proofs.YtgpbhigjmkkofaaGreat
open Go.RowKit

abbrev intTy : Value := rt 3
abbrev strTy : Value := rt 9
theorem cKindInt (w : World) : (callFunc 168 #[.pointer (some ⟨0, 3, none⟩)]).run Tryz.prog w = .ok (.value (.int .u64 2)) w := by kernel_rfl
theorem cKindStr (w : World) : (callFunc 168 #[.pointer (some ⟨0, 9, none⟩)]).run Tryz.prog w = .ok (.value (.int .u64 24)) w := by kernel_rfl
theorem eqIntInt (w : World) : (binOp .eql 43 intTy intTy).run Tryz.prog w = .ok (.bool true) w := by kernel_rfl

set_option maxRecDepth 100000 in
set_option maxHeartbeats 400000 in
theorem builtinInt_int (w : World) :
    Calls Tryz.prog 94 #[intTy] w fun e w' => e = .returned (.bool true) ∧ w = w' := by
  have h1 := typeOf_run 3
  have h2 := eqIntInt
  go_enter Tryz.func94, Tryz.ntmps94
  go_wp2_with fail
  go_ret
  exact ⟨rfl, rfl⟩

set_option maxRecDepth 100000 in
set_option maxHeartbeats 400000 in
theorem fromTypeC_int (w : World) :
    Calls Tryz.prog 92 #[.pointer none, intTy] w fun e w' => e = .returned (.agg (nat intTy 2 true false)) ∧ w' = w.alloc (.cells (nat intTy 2 true false) 48) := by
  have h1 := mKind 3
  rw [tsize] at h1
  have h2 := cKindInt
  have h3 := eqNilRt 3
  go_enter Tryz.func92, Tryz.ntmps92
  go_wp2_with fail
  refine (builtinInt_int _).mono ?_
  rintro e w' ⟨rfl, rfl⟩
  go_wp2_with fail
  exact bodyPost_ret (v := .agg (nat intTy 2 true false)) (by simp [results, Tryz.results92, go_sem]) rfl ⟨rfl, rfl⟩

set_option maxRecDepth 100000 in
set_option maxHeartbeats 400000 in
theorem fromTypeC_str (w : World) :
    Calls Tryz.prog 92 #[.pointer none, strTy] w fun e w' => e = .returned (.agg (nat strTy 24 false false)) ∧ w' = w.alloc (.cells (nat strTy 24 false false) 48) := by
  have h1 := mKind 9
  rw [tsize] at h1
  have h2 := cKindStr
  have h3 := eqNilRt 9
  go_enter Tryz.func92, Tryz.ntmps92
  go_wp2
  exact bodyPost_ret (v := .agg (nat strTy 24 false false)) (by simp [results, Tryz.results92, go_sem]) rfl ⟨rfl, rfl⟩

set_option maxRecDepth 100000 in
set_option maxHeartbeats 400000 in
theorem fromType_int (w : World) :
    Calls Tryz.prog 90 #[intTy] w fun e w' => e = .returned (.agg (nat intTy 2 true false)) ∧ Below w.heap.size w w' := by
  go_enter Tryz.func90, Tryz.ntmps90
  go_wp2_with fail
  refine (fromTypeC_int _).mono ?_
  rintro e w1 ⟨rfl, rfl⟩
  go_wp2_with fail
  exact bodyPost_ret (v := .agg (nat intTy 2 true false)) (by simp [results, Tryz.results90, go_sem]) rfl ⟨rfl, ((Below.refl _ _).alloc (Nat.le_refl _) _).alloc (by simp) _⟩

set_option maxRecDepth 100000 in
set_option maxHeartbeats 1000000 in
theorem setType_int (q : Nat) (c : Array Value) (T : TypeId) (w : World) (hq : w.heap[q]? = some (.cells c T (0, 0))) (hs : 11 ≤ c.size) :
    Calls Tryz.prog 87 #[.pointer (some ⟨q, 0, none⟩), intTy] w fun e w' => e = .returned (.tuple #[]) ∧ Wr [q] w w' ∧ w'.heap[q]? = some (.cells (setNat c intTy 2 true false) T (0, 0)) := by
  go_enter Tryz.func87, Tryz.ntmps87
  go_wp2_with fail
  refine (fromType_int _).mono ?_
  rintro e w1 ⟨rfl, hb⟩
  have hq1 := below_keep hb hq
  have c2 : ∃ v, w1.cell? ⟨q, 2, none⟩ = some v := ⟨_, by rw [cell_of_block hq1, Array.getElem?_eq_getElem (by omega)]⟩
  have c3 : ∃ v, w1.cell? ⟨q, 3, none⟩ = some v := ⟨_, by rw [cell_of_block hq1, Array.getElem?_eq_getElem (by omega)]⟩
  have c4 : ∃ v, w1.cell? ⟨q, 4, none⟩ = some v := ⟨_, by rw [cell_of_block hq1, Array.getElem?_eq_getElem (by omega)]⟩
  have c5 : ∃ v, w1.cell? ⟨q, 5, none⟩ = some v := ⟨_, by rw [cell_of_block hq1, Array.getElem?_eq_getElem (by omega)]⟩
  have c6 : ∃ v, w1.cell? ⟨q, 6, none⟩ = some v := ⟨_, by rw [cell_of_block hq1, Array.getElem?_eq_getElem (by omega)]⟩
  have c7 : ∃ v, w1.cell? ⟨q, 7, none⟩ = some v := ⟨_, by rw [cell_of_block hq1, Array.getElem?_eq_getElem (by omega)]⟩
  have c8 : ∃ v, w1.cell? ⟨q, 8, none⟩ = some v := ⟨_, by rw [cell_of_block hq1, Array.getElem?_eq_getElem (by omega)]⟩
  have c9 : ∃ v, w1.cell? ⟨q, 9, none⟩ = some v := ⟨_, by rw [cell_of_block hq1, Array.getElem?_eq_getElem (by omega)]⟩
  have c10 : ∃ v, w1.cell? ⟨q, 10, none⟩ = some v := ⟨_, by rw [cell_of_block hq1, Array.getElem?_eq_getElem (by omega)]⟩
  obtain ⟨v2, c2⟩ := c2
  obtain ⟨v3, c3⟩ := c3
  obtain ⟨v4, c4⟩ := c4
  obtain ⟨v5, c5⟩ := c5
  obtain ⟨v6, c6⟩ := c6
  obtain ⟨v7, c7⟩ := c7
  obtain ⟨v8, c8⟩ := c8
  obtain ⟨v9, c9⟩ := c9
  obtain ⟨v10, c10⟩ := c10
  have f2 := free_of_block hq1 2
  have f3 := free_of_block hq1 3
  have f4 := free_of_block hq1 4
  have f5 := free_of_block hq1 5
  have f6 := free_of_block hq1 6
  have f7 := free_of_block hq1 7
  have f8 := free_of_block hq1 8
  have f9 := free_of_block hq1 9
  have f10 := free_of_block hq1 10
  have HQ := Lib.hid hq
  have HQ1 := Lib.hid hq1
  clear hq hq1
  go_wp2_with fail
  go_end0
  refine ⟨rfl, ?_, ?_⟩
  · have h0 : Wr [q] w w1 := Wr.of_below hb
    exact ((((((((h0.set (by simp) _).set (by simp) _).set (by simp) _).set (by simp) _).set (by simp) _).set (by simp) _).set (by simp) _).set (by simp) _).set (by simp) _
  · exact set_block (set_block (set_block (set_block (set_block (set_block (set_block (set_block (set_block HQ1.out _ _) _ _) _ _) _ _) _ _) _ _) _ _) _ _) _ _

set_option maxRecDepth 100000 in
set_option maxHeartbeats 400000 in
theorem fromType_str (w : World) :
    Calls Tryz.prog 90 #[strTy] w fun e w' => e = .returned (.agg (nat strTy 24 false false)) ∧ Below w.heap.size w w' := by
  go_enter Tryz.func90, Tryz.ntmps90
  go_wp2_with fail
  refine (fromTypeC_str _).mono ?_
  rintro e w1 ⟨rfl, rfl⟩
  go_wp2_with fail
  exact bodyPost_ret (v := .agg (nat strTy 24 false false)) (by simp [results, Tryz.results90, go_sem]) rfl ⟨rfl, ((Below.refl _ _).alloc (Nat.le_refl _) _).alloc (by simp) _⟩

set_option maxRecDepth 100000 in
set_option maxHeartbeats 1000000 in
theorem setType_str (q : Nat) (c : Array Value) (T : TypeId) (w : World) (hq : w.heap[q]? = some (.cells c T (0, 0))) (hs : 11 ≤ c.size) :
    Calls Tryz.prog 87 #[.pointer (some ⟨q, 0, none⟩), strTy] w fun e w' => e = .returned (.tuple #[]) ∧ Wr [q] w w' ∧ w'.heap[q]? = some (.cells (setNat c strTy 24 false false) T (0, 0)) := by
  go_enter Tryz.func87, Tryz.ntmps87
  go_wp2_with fail
  refine (fromType_str _).mono ?_
  rintro e w1 ⟨rfl, hb⟩
  have hq1 := below_keep hb hq
  have c2 : ∃ v, w1.cell? ⟨q, 2, none⟩ = some v := ⟨_, by rw [cell_of_block hq1, Array.getElem?_eq_getElem (by omega)]⟩
  have c3 : ∃ v, w1.cell? ⟨q, 3, none⟩ = some v := ⟨_, by rw [cell_of_block hq1, Array.getElem?_eq_getElem (by omega)]⟩
  have c4 : ∃ v, w1.cell? ⟨q, 4, none⟩ = some v := ⟨_, by rw [cell_of_block hq1, Array.getElem?_eq_getElem (by omega)]⟩
  have c5 : ∃ v, w1.cell? ⟨q, 5, none⟩ = some v := ⟨_, by rw [cell_of_block hq1, Array.getElem?_eq_getElem (by omega)]⟩
  have c6 : ∃ v, w1.cell? ⟨q, 6, none⟩ = some v := ⟨_, by rw [cell_of_block hq1, Array.getElem?_eq_getElem (by omega)]⟩
  have c7 : ∃ v, w1.cell? ⟨q, 7, none⟩ = some v := ⟨_, by rw [cell_of_block hq1, Array.getElem?_eq_getElem (by omega)]⟩
  have c8 : ∃ v, w1.cell? ⟨q, 8, none⟩ = some v := ⟨_, by rw [cell_of_block hq1, Array.getElem?_eq_getElem (by omega)]⟩
  have c9 : ∃ v, w1.cell? ⟨q, 9, none⟩ = some v := ⟨_, by rw [cell_of_block hq1, Array.getElem?_eq_getElem (by omega)]⟩
  have c10 : ∃ v, w1.cell? ⟨q, 10, none⟩ = some v := ⟨_, by rw [cell_of_block hq1, Array.getElem?_eq_getElem (by omega)]⟩
  obtain ⟨v2, c2⟩ := c2
  obtain ⟨v3, c3⟩ := c3
  obtain ⟨v4, c4⟩ := c4
  obtain ⟨v5, c5⟩ := c5
  obtain ⟨v6, c6⟩ := c6
  obtain ⟨v7, c7⟩ := c7
  obtain ⟨v8, c8⟩ := c8
  obtain ⟨v9, c9⟩ := c9
  obtain ⟨v10, c10⟩ := c10
  have f2 := free_of_block hq1 2
  have f3 := free_of_block hq1 3
  have f4 := free_of_block hq1 4
  have f5 := free_of_block hq1 5
  have f6 := free_of_block hq1 6
  have f7 := free_of_block hq1 7
  have f8 := free_of_block hq1 8
  have f9 := free_of_block hq1 9
  have f10 := free_of_block hq1 10
  have HQ := Lib.hid hq
  have HQ1 := Lib.hid hq1
  clear hq hq1
  go_wp2_with fail
  go_end0
  refine ⟨rfl, ?_, ?_⟩
  · have h0 : Wr [q] w w1 := Wr.of_below hb
    exact ((((((((h0.set (by simp) _).set (by simp) _).set (by simp) _).set (by simp) _).set (by simp) _).set (by simp) _).set (by simp) _).set (by simp) _).set (by simp) _
  · exact set_block (set_block (set_block (set_block (set_block (set_block (set_block (set_block (set_block HQ1.out _ _) _ _) _ _) _ _) _ _) _ _) _ _) _ _) _ _
end Go.Proofs.YtgpbhigjmkkofaaGreat

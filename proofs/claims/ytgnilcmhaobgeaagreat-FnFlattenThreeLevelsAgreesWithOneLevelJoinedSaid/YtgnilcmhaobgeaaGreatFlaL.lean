/- Flatten: laws on lists of lists. Plain; no program in sight. -/
import Derived.WalkKit
namespace Go.Proofs.YtgnilcmhaobgeaaGreat

/-- how many elements the first k lists hold -/
def pre {α : Type} (M : List (List α)) (k : Nat) : Nat := (M.take k).flatten.length
theorem pre_zero {α : Type} (M : List (List α)) : pre M 0 = 0 := by simp [pre]
theorem take_succ_of {β : Type} {M : List β} {k : Nat} {x : β} (h : M[k]? = some x) : M.take (k + 1) = M.take k ++ [x] := by
  rw [List.take_add_one, h]; rfl
theorem pre_succ {α : Type} {M : List (List α)} {k : Nat} {x : List α} (h : M[k]? = some x) : pre M (k + 1) = pre M k + x.length := by
  unfold pre
  rw [take_succ_of h]
  simp
theorem pre_all {α : Type} (M : List (List α)) {k : Nat} (h : M.length ≤ k) : pre M k = M.flatten.length := by
  unfold pre
  rw [List.take_of_length_le h]
theorem split_at {β : Type} {M : List β} {k : Nat} {x : β} (h : M[k]? = some x) : M = M.take k ++ x :: M.drop (k + 1) := by
  obtain ⟨hk, rfl⟩ := List.getElem?_eq_some_iff.1 h
  rw [← List.drop_eq_getElem_cons hk, List.take_append_drop]
theorem pre_le {α : Type} {M : List (List α)} {k : Nat} {x : List α} (h : M[k]? = some x) : pre M k + x.length ≤ M.flatten.length := by
  rw [← pre_succ h]
  unfold pre
  have := congrArg List.length (congrArg List.flatten (List.take_append_drop (k + 1) M))
  simp only [List.flatten_append, List.length_append] at this
  omega
theorem flat_at {α : Type} {M : List (List α)} {k j : Nat} {x : List α} (h : M[k]? = some x) (hj : j < x.length) : M.flatten[pre M k + j]? = x[j]? := by
  have e : M.flatten = (M.take k).flatten ++ (x ++ (M.drop (k + 1)).flatten) := by
    conv => lhs; rw [split_at h]
    simp
  rw [e, List.getElem?_append_right (by unfold pre; omega)]
  unfold pre
  rw [Nat.add_sub_cancel_left, List.getElem?_append_left hj]
theorem take_flat_succ {α : Type} {M : List (List α)} {k : Nat} {x : List α} (h : M[k]? = some x) : (M.take (k + 1)).flatten = (M.take k).flatten ++ x := by
  rw [take_succ_of h]; simp
/-- the first k lists' numbers, by sub -/
def cat {α : Type} (sub : α → List Int) (M : List α) (k : Nat) : List Int := ((M.take k).map sub).flatten
theorem cat_zero {α : Type} (sub : α → List Int) (M : List α) : cat sub M 0 = [] := by simp [cat]
theorem cat_succ {α : Type} {sub : α → List Int} {M : List α} {k : Nat} {x : α} (h : M[k]? = some x) : cat sub M (k + 1) = cat sub M k ++ sub x := by
  unfold cat
  rw [take_succ_of h]; simp
theorem cat_all {α : Type} (sub : α → List Int) (M : List α) {k : Nat} (h : M.length ≤ k) : cat sub M k = (M.map sub).flatten := by
  unfold cat
  rw [List.take_of_length_le h]
theorem cat_le {α : Type} (sub : α → List Int) {M : List α} {k : Nat} {x : α} (h : M[k]? = some x) : (cat sub M k).length + (sub x).length ≤ (M.map sub).flatten.length := by
  have := congrArg List.length (congrArg List.flatten (congrArg (List.map sub) (List.take_append_drop (k + 1) M)))
  rw [take_succ_of h] at this
  simp only [List.map_append, List.flatten_append, List.length_append, List.map_cons, List.map_nil, List.flatten_cons, List.flatten_nil, List.append_nil] at this
  unfold cat
  omega
end Go.Proofs.YtgnilcmhaobgeaaGreat

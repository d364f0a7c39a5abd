/- FnFlattenThreeLevelsAgreesWithOneLevelJoined: the joined list in memory; sums. Plain laws. -/
import Derived.Test.YtgnilcmhaobgeaaGreatFlaD
namespace Go.Proofs.YtgnilcmhaobgeaaGreat
open Go.RowKit Go.Deep

/-- rows of ints of the call's own, gathered in a slice of the call's own, not nil -/
def Joined (base : Nat) (w : World) (v : Value) (J : List (List Int)) : Prop :=
  ∃ g c xs, v = .slice (some ⟨g, 0, none⟩) J.length c ∧ w.ownsRow base 38 1 v J.length xs ∧ ∀ (i : Nat) (y : List Int), J[i]? = some y → ∃ u, xs[i]? = some u ∧ Ow1 w u y
theorem Joined.shape {base : Nat} {w : World} {v : Value} {J : List (List Int)} (h : Joined base w v J) : ∃ g c, v = .slice (some ⟨g, 0, none⟩) J.length c := by
  obtain ⟨g, c, _, h1, _⟩ := h
  exact ⟨g, c, h1⟩
theorem Joined.below {base : Nat} {w w' : World} {v : Value} {J : List (List Int)} (h : Joined base w v J) (hb : Below w.heap.size w w') : Joined base w' v J := by
  obtain ⟨g, c, xs, h1, h2, h3⟩ := h
  refine ⟨g, c, xs, h1, owns_below h2 hb, fun i y hy => ?_⟩
  obtain ⟨u, h4, h5⟩ := h3 i y hy
  exact ⟨u, h4, Ow1.stable _ _ _ _ h5 hb⟩
theorem Joined.start (w : World) (n : Nat) (hn : n ≤ maxLen) : Joined w.heap.size (w.alloc (.cells (madeCells #[.slice none 0 0] n) 38)) (.slice (some ⟨w.heap.size, 0, none⟩) 0 n) [] :=
  ⟨w.heap.size, n, [], rfl, World.ownsRow_made w _ n (Nat.le_refl _) hn (by rw [size_madeCells, Nat.mul_one]), fun i y hy => by simp at hy⟩
/-- an own row of ints is none of another type's blocks -/
theorem Ow1.grown {w w' : World} {u : Value} {y : List Int} (h : Ow1 w u y) {row : Option Nat} (hg : w.grownBy w' row) (hr : ∀ k, row = some k → ∃ cur, w.heap[k]? = some (.cells cur 38 (0, 0))) : Ow1 w' u y := by
  obtain ⟨a, h1, h2⟩ := h
  refine ⟨a, h1, fun hM => ?_⟩
  obtain ⟨b, f, h3, h4, h5⟩ := h2 hM
  refine ⟨b, f, h3, h4.of_block (hg.block b h4.lt fun e => ?_), h5⟩
  obtain ⟨cur, hc⟩ := hr b e.symm
  obtain ⟨d, hd, _⟩ := h4
  rw [hd] at hc
  injection hc with hc
  injection hc with _ hc _
  exact absurd hc (by decide)
theorem Joined.block {base : Nat} {w : World} {v : Value} {J : List (List Int)} (h : Joined base w v J) : ∀ k, v.ownBlock = some k → ∃ cur, w.heap[k]? = some (.cells cur 38 (0, 0)) := by
  intro k hk
  obtain ⟨g, c, xs, h1, h2, _⟩ := h
  rcases h2.2 with ⟨h3, _⟩ | ⟨g2, cap, cur, h3, h4, h5, _⟩
  · rw [h3] at h1; cases h1
  · rw [h3] at hk
    simp [Value.ownBlock] at hk
    subst hk
    exact ⟨cur, h5⟩
theorem Joined.step {base : Nat} {w w' : World} {v v' u : Value} {J K : List (List Int)} {y : List Int} {xs : List Value} (h : Joined base w v J) (hK : K = J ++ [y]) (hu : Ow1 w u y) (hxs : w.ownsRow base 38 1 v J.length xs) (hel : ∀ (i : Nat) (x : List Int), J[i]? = some x → ∃ u, xs[i]? = some u ∧ Ow1 w u x)
    (ho : w'.ownsRow base 38 1 v' (J.length + 1) (xs ++ [u])) (hg : w.grownBy w' v.ownBlock) (hn : v' = .slice none 0 0 → v = .slice none 0 0) : Joined base w' v' K := by
  subst hK
  have hb := h.block
  obtain ⟨g, c, _, h1, _, _⟩ := h
  have hl : J.length + 1 = (J ++ [y]).length := by simp
  rw [hl] at ho
  have hxl : xs.length = J.length := by have := hxs.1; omega
  rcases ho.2 with ⟨h3, _⟩ | ⟨g2, cap, cur, h3, _⟩
  · rw [hn h3] at h1
    cases h1
  · refine ⟨g2, cap, _, h3, ho, fun i x hx => ?_⟩
    by_cases hi : i < J.length
    · rw [List.getElem?_append_left hi] at hx
      obtain ⟨u2, h4, h5⟩ := hel i x hx
      exact ⟨u2, by rw [List.getElem?_append_left (by omega)]; exact h4, h5.grown hg hb⟩
    · have hi2 : i = J.length := by
        have := (List.getElem?_eq_some_iff.1 hx).1
        simp at this
        omega
      subst hi2
      rw [List.getElem?_append_right (Nat.le_refl _)] at hx
      simp at hx
      subst hx
      exact ⟨u, by rw [← hxl]; simp, hu.grown hg hb⟩
theorem Joined.grown {base : Nat} {w w' w0 : World} {v : Value} {J : List (List Int)} (h : Joined base w v J) (hb : Below base w0 w) (hg : w.grownBy w' v.ownBlock) (hB : base ≤ w.heap.size) : Below base w0 w' := by
  obtain ⟨g, c, xs, _, h2, _⟩ := h
  exact hb.grown hg hB fun k hk => (h2.lt k hk).1
theorem Joined.toIn2 {base : Nat} {w : World} {v : Value} {J : List (List Int)} (h : Joined base w v J) (hm : J.length ≤ maxLen) (hx : ∀ y ∈ J, y.length ≤ maxLen) : In2 w v J := by
  obtain ⟨g, c, xs, h1, h2, h3⟩ := h
  refine ⟨_, c, h1, hm, fun _ => ⟨g, 0, rfl, fun i y hy => ?_⟩⟩
  obtain ⟨u, h4, h5⟩ := h3 i y hy
  refine ⟨u, ?_, OwS.toIn h5 (hx y (List.mem_of_getElem? hy)) fun _ _ _ h => h⟩
  rcases h2.2 with ⟨h6, _⟩ | ⟨g2, cap, cur, h6, _, h7, h8, _, _, h9⟩
  · rw [h6] at h1; cases h1
  · rw [h6] at h1
    injection h1 with q1 _ _
    injection q1 with q1
    injection q1 with q1 _ _
    subst q1
    rw [Nat.zero_add, cell_of_block h7]
    have hi : i < J.length := (List.getElem?_eq_some_iff.1 hy).1
    rw [← h9, List.getElem?_take_of_lt (by omega)] at h4
    simpa using h4
end Go.Proofs.YtgnilcmhaobgeaaGreat

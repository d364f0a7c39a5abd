/- Flatten: what a call hands back; what one append does to what has been gathered. Plain laws. -/
import Derived.Test.YtgnilcmhaobgeaaGreatFlaA
import Derived.Test.YtgnilcmhaobgeaaGreatFlaL
import Derived.Laws.AppendOwn
import Derived.Laws.OwnMore
namespace Go.Proofs.YtgnilcmhaobgeaaGreat
open Go.RowKit Go.Deep

/-- an int as an any -/
abbrev anyInt (x : Int) : Value := .iface 3 (.int .i64 x)
/-- the list L gathered in a slice of the call's own, not nil -/
def Got (base : Nat) (w : World) (v : Value) (L : List Int) : Prop := ∃ g c, v = .slice (some ⟨g, 0, none⟩) L.length c ∧ w.ownsRow base 20 1 v L.length (L.map anyInt)
def FlatPost (w : World) (L : List Int) (e : Ending) (w' : World) : Prop := ∃ v, e = .returned (.tuple #[v, .nilIface]) ∧ Below w.heap.size w w' ∧ Got w.heap.size w' v L
def ErrPost (w : World) (e : Ending) (w' : World) : Prop := ∃ T s, e = .returned (.tuple #[.slice none 0 0, .iface T (.string s)]) ∧ Below w.heap.size w w'

theorem owns_below {base size n : Nat} {e : TypeId} {v : Value} {xs : List Value} {w w' : World} (h : w.ownsRow base e size v n xs) (hb : Below w.heap.size w w') : w'.ownsRow base e size v n xs := by
  refine ⟨h.1, ?_⟩
  rcases h.2 with h2 | ⟨g, cap, cur, h1, h2, h3, h4⟩
  · exact Or.inl h2
  · exact Or.inr ⟨g, cap, cur, h1, h2, below_keep hb h3, h4⟩
theorem Got.below {base : Nat} {w w' : World} {v : Value} {L : List Int} (h : Got base w v L) (hb : Below w.heap.size w w') : Got base w' v L := by
  obtain ⟨g, c, h1, h2⟩ := h
  exact ⟨g, c, h1, owns_below h2 hb⟩
theorem Got.base {B B' : Nat} {w : World} {v : Value} {L : List Int} (h : Got B w v L) (hB : B' ≤ B) : Got B' w v L := by
  obtain ⟨g, c, h1, h2⟩ := h
  refine ⟨g, c, h1, h2.1, ?_⟩
  rcases h2.2 with h3 | ⟨g, cap, cur, h3, h4, h5⟩
  · exact Or.inl h3
  · exact Or.inr ⟨g, cap, cur, h3, by omega, h5⟩
theorem Got.cells {base : Nat} {w : World} {g l c : Nat} {L : List Int} (h : Got base w (.slice (some ⟨g, 0, none⟩) l c) L) : l = L.length ∧ base ≤ g ∧ g < w.heap.size ∧ ∀ j u, (L.map anyInt)[j]? = some u → w.cell? ((⟨g, 0, none⟩ : Addr).add j) = some u := by
  obtain ⟨g', c', h1, h2⟩ := h
  injection h1 with e1 e2 e3
  refine ⟨e2, ?_⟩
  rcases h2.2 with ⟨h3, _⟩ | ⟨g2, cap, cur, h3, h4, h5, h6, h7, h8, h9⟩
  · cases h3
  · injection h3 with q1 q2 q3
    injection q1 with q1
    injection q1 with q1 _ _
    subst q1
    refine ⟨h4, lt_of_heap h5, fun j u hj => ?_⟩
    have e : (⟨g, 0, none⟩ : Addr).add j = ⟨g, j, none⟩ := by unfold Addr.add; split <;> simp_all
    rw [e, cell_of_block h5]
    have hj2 : j < L.length := by
      have := (List.getElem?_eq_some_iff.1 hj).1
      simpa using this
    rw [← h9, List.getElem?_take_of_lt (by omega)] at hj
    simpa using hj
theorem Got.shape {base : Nat} {w : World} {v : Value} {L : List Int} (h : Got base w v L) : ∃ g c, v = .slice (some ⟨g, 0, none⟩) L.length c := by
  obtain ⟨g, c, h1, _⟩ := h
  exact ⟨g, c, h1⟩
/-- what the law on append leaves -/
theorem Got.step {base : Nat} {w w' : World} {v v' : Value} {L L' K : List Int} (h : Got base w v L) (hk : K = L ++ L') (ho : w'.ownsRow base 20 1 v' (L.length + L'.length) (L.map anyInt ++ L'.map anyInt)) (hn : v' = .slice none 0 0 → v = .slice none 0 0) : Got base w' v' K := by
  subst hk
  obtain ⟨g, c, h1, _⟩ := h
  have hl : L.length + L'.length = (L ++ L').length := by simp
  rw [hl, ← List.map_append] at ho
  rcases ho.2 with ⟨h3, _⟩ | ⟨g2, cap, cur, h3, _⟩
  · rw [hn h3] at h1
    cases h1
  · exact ⟨g2, cap, h3, ho⟩
theorem Got.grown {base : Nat} {w w' : World} {v : Value} {L : List Int} {w0 : World} (h : Got base w v L) (hb : Below base w0 w) (hg : w.grownBy w' v.ownBlock) (hB : base ≤ w.heap.size) : Below base w0 w' := by
  obtain ⟨g, c, _, h2⟩ := h
  exact hb.grown hg hB fun k hk => (h2.lt k hk).1
theorem Got.start (w : World) : Got w.heap.size (w.alloc (.cells #[] 20)) (.slice (some ⟨w.heap.size, 0, none⟩) 0 0) [] :=
  ⟨w.heap.size, 0, rfl, World.ownsRow_made w #[] 0 (Nat.le_refl _) (by decide) rfl⟩
theorem Got.start' {w : World} {B n : Nat} (h : n = w.heap.size) (hB : B ≤ w.heap.size) : Got B (w.alloc (.cells #[] 20)) (.slice (some ⟨n, 0, none⟩) 0 0) [] := by
  subst h
  exact (Got.start w).base hB
theorem Got.own {base : Nat} {w : World} {v : Value} {L : List Int} (h : Got base w v L) : w.ownsRow base 20 1 v L.length (L.map anyInt) := by
  obtain ⟨_, _, _, h2⟩ := h
  exact h2
theorem anyInt_one (L : List Int) : ∀ u ∈ L.map anyInt, u.oneCell' = true := by
  intro u hu
  obtain ⟨x, _, rfl⟩ := List.mem_map.1 hu
  rfl
theorem below_trans {a b c : World} {B : Nat} (h : Below B a b) (k : Below b.heap.size b c) (hB : B ≤ a.heap.size) : Below B a c := h.trans (k.mono (by have := h.size; omega))
end Go.Proofs.YtgnilcmhaobgeaaGreat

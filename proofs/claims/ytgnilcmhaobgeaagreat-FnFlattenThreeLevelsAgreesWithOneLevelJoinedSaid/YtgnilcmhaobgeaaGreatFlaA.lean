/- Flatten: slices of slices in memory, by lists: those that came in, those of the call's own. Plain laws. -/
import Derived.Test.YtgnilcmhaobgeaaGreatProg
import Derived.Test.YtgnilcmhaobgeaaGreatHeap
import Derived.WalkKit
import Derived.WalkSpells
import Derived.WalkLawsBesides
import Derived.Deep.OwnRows
import Derived.Lib.Hide
namespace Go.Proofs.YtgnilcmhaobgeaaGreat
open Go.RowKit Go.Deep

def Stable {α : Type} (P : World → Value → α → Prop) : Prop := ∀ w w' v x, P w v x → Below w.heap.size w w' → P w' v x
/-- a slice that can be read: its elements are the list's, each by P -/
def InS {α : Type} (P : World → Value → α → Prop) (w : World) (v : Value) (M : List α) : Prop :=
  ∃ (a : Option Addr) (c : Nat), v = .slice a M.length c ∧ M.length ≤ maxLen ∧ (M ≠ [] → ∃ b off, a = some ⟨b, off, none⟩ ∧ ∀ i x, M[i]? = some x → ∃ u, w.cell? ⟨b, off + i, none⟩ = some u ∧ P w u x)
def P0 (_ : World) (v : Value) (x : Int) : Prop := v = .int .i64 x
abbrev In1 := InS P0
abbrev In2 := InS In1
abbrev In3 := InS In2
theorem P0.stable : Stable P0 := fun _ _ _ _ h _ => h
theorem InS.stable {α : Type} {P : World → Value → α → Prop} (hP : Stable P) : Stable (InS P) := by
  rintro w w' v M ⟨a, c, h1, h2, h3⟩ hb
  refine ⟨a, c, h1, h2, fun hM => ?_⟩
  obtain ⟨b, off, h4, h5⟩ := h3 hM
  refine ⟨b, off, h4, fun i x hx => ?_⟩
  obtain ⟨u, h6, h7⟩ := h5 i x hx
  exact ⟨u, by rw [hb.cell (p := ⟨b, off + i, none⟩) (lt_of_cell h6)]; exact h6, hP _ _ _ _ h7 hb⟩
theorem In1.stable : Stable In1 := InS.stable P0.stable
theorem In2.stable : Stable In2 := InS.stable In1.stable
theorem In3.stable : Stable In3 := InS.stable In2.stable
/-- its element i -/
theorem InS.at {α : Type} {P : World → Value → α → Prop} {w : World} {a : Option Addr} {l c : Nat} {M : List α} (h : InS P w (.slice a l c) M) {i : Nat} (hi : i < l) :
    ∃ b off u x, a = some ⟨b, off, none⟩ ∧ M[i]? = some x ∧ w.cell? ⟨b, off + i, none⟩ = some u ∧ P w u x := by
  obtain ⟨a', c', h1, h2, h3⟩ := h
  injection h1 with e1 e2 e3
  subst e1
  have hM : M ≠ [] := fun e => by subst e; simp at e2; omega
  obtain ⟨b, off, h4, h5⟩ := h3 hM
  have hx : M[i]? = some M[i] := List.getElem?_eq_getElem (by omega)
  obtain ⟨u, h6, h7⟩ := h5 i _ hx
  exact ⟨b, off, u, _, h4, hx, h6, h7⟩
theorem InS.len {α : Type} {P : World → Value → α → Prop} {w : World} {a : Option Addr} {l c : Nat} {M : List α} (h : InS P w (.slice a l c) M) : l = M.length ∧ l ≤ maxLen := by
  obtain ⟨a', c', h1, h2, _⟩ := h
  injection h1 with e1 e2 e3
  omega
theorem InS.shape {α : Type} {P : World → Value → α → Prop} {w : World} {v : Value} {M : List α} (h : InS P w v M) : ∃ a c, v = .slice a M.length c := by
  obtain ⟨a', c', h1, _⟩ := h
  exact ⟨a', c', h1⟩
theorem InS.nil {α : Type} {P : World → Value → α → Prop} {w : World} {l c : Nat} {M : List α} (h : InS P w (.slice none l c) M) : M = [] := by
  obtain ⟨a', c', h1, _, h3⟩ := h
  injection h1 with e1 e2 e3
  subst e1
  by_cases hM : M = []
  · exact hM
  · obtain ⟨b, off, h4, _⟩ := h3 hM
    cases h4

/-- a slice of the call's own: nil or a row of type T -/
def OwS {α : Type} (T : TypeId) (P : World → Value → α → Prop) (w : World) (v : Value) (M : List α) : Prop :=
  ∃ a, v = .slice a M.length M.length ∧ (M ≠ [] → ∃ b f, a = some ⟨b, 0, none⟩ ∧ w.rowIs b T M.length f ∧ ∀ i x, M[i]? = some x → P w (f i) x)
abbrev Ow1 := OwS 3 P0
abbrev Ow2 := OwS 38 Ow1
abbrev Ow3 := OwS 36 Ow2
theorem OwS.toIn {α : Type} {T : TypeId} {P Q : World → Value → α → Prop} {w : World} {v : Value} {M : List α} (h : OwS T P w v M) (hm : M.length ≤ maxLen) (hQ : ∀ u x, x ∈ M → P w u x → Q w u x) : InS Q w v M := by
  obtain ⟨a, h1, h2⟩ := h
  refine ⟨a, M.length, h1, hm, fun hM => ?_⟩
  obtain ⟨b, f, h3, h4, h5⟩ := h2 hM
  refine ⟨b, 0, h3, fun i x hx => ⟨f i, ?_, hQ _ _ (List.mem_of_getElem? hx) (h5 i x hx)⟩⟩
  have hi : i < M.length := (List.getElem?_eq_some_iff.1 hx).1
  rw [Nat.zero_add]
  exact h4.cell hi
theorem OwS.nil {α : Type} (T : TypeId) (P : World → Value → α → Prop) (w : World) : OwS T P w (.slice none 0 0) [] := ⟨none, rfl, fun h => absurd rfl h⟩
theorem OwS.stable {α : Type} {T : TypeId} {P : World → Value → α → Prop} (hP : Stable P) : Stable (OwS T P) := by
  rintro w w' v M ⟨a, h1, h2⟩ hb
  refine ⟨a, h1, fun hM => ?_⟩
  obtain ⟨b, f, h3, h4, h5⟩ := h2 hM
  exact ⟨b, f, h3, h4.of_block (hb.block b h4.lt), fun i x hx => hP _ _ _ _ (h5 i x hx) hb⟩
theorem Ow1.stable : Stable Ow1 := OwS.stable P0.stable
theorem Ow2.stable : Stable Ow2 := OwS.stable Ow1.stable
theorem Ow3.stable : Stable Ow3 := OwS.stable Ow2.stable
theorem row_ne {w : World} {a b n m : Nat} {T U : TypeId} {f g : Nat → Value} (h : w.rowIs a T n f) (k : w.rowIs b U m g) (hT : T ≠ U) : a ≠ b := by
  rintro rfl
  obtain ⟨c, hc, _⟩ := h
  obtain ⟨d, hd, _⟩ := k
  rw [hc] at hd
  injection hd with hd
  injection hd with _ hd _
  exact hT hd
/-- a store into a row of another type -/
theorem OwS.set {α : Type} {T : TypeId} {P : World → Value → α → Prop} {w : World} {v : Value} {M : List α} (h : OwS T P w v M) {B n : Nat} {U : TypeId} {g : Nat → Value} (hB : w.rowIs B U n g) (hT : T ≠ U) (k : Nat) (y : Value)
    (hP : ∀ u x, P w u x → P (w.setCell ⟨B, k, none⟩ y) u x) : OwS T P (w.setCell ⟨B, k, none⟩ y) v M := by
  obtain ⟨a, h1, h2⟩ := h
  refine ⟨a, h1, fun hM => ?_⟩
  obtain ⟨b, f, h3, h4, h5⟩ := h2 hM
  exact ⟨b, f, h3, h4.setOther (row_ne h4 hB hT) _, fun i x hx => hP _ _ (h5 i x hx)⟩
theorem Ow1.set {w : World} {v : Value} {M : List Int} (h : Ow1 w v M) {B n : Nat} {U : TypeId} {g : Nat → Value} (hB : w.rowIs B U n g) (hT : 3 ≠ U) (k : Nat) (y : Value) : Ow1 (w.setCell ⟨B, k, none⟩ y) v M :=
  OwS.set h hB hT k y (fun _ _ h => h)
theorem Ow2.set {w : World} {v : Value} {M : List (List Int)} (h : Ow2 w v M) {B n : Nat} {U : TypeId} {g : Nat → Value} (hB : w.rowIs B U n g) (hT : 3 ≠ U) (hT2 : 38 ≠ U) (k : Nat) (y : Value) : Ow2 (w.setCell ⟨B, k, none⟩ y) v M :=
  OwS.set h hB hT2 k y (fun _ _ h => Ow1.set h hB hT k y)
theorem Ow1.shape {w : World} {v : Value} {M : List Int} (h : Ow1 w v M) : ∃ a, v = .slice a M.length M.length := by
  obtain ⟨a, h1, _⟩ := h
  exact ⟨a, h1⟩
theorem OwS.shape {α : Type} {T : TypeId} {P : World → Value → α → Prop} {w : World} {v : Value} {M : List α} (h : OwS T P w v M) : ∃ a, v = .slice a M.length M.length := by
  obtain ⟨a, h1, _⟩ := h
  exact ⟨a, h1⟩

/-- what a clone's loop has laid after k rounds -/
structure Cloned {α : Type} (T : TypeId) (P : World → Value → α → Prop) (z : Value) (w wr : World) (M : List α) (k : Nat) : Prop where
  below : Below w.heap.size w wr
  row : ∃ f, wr.rowIs w.heap.size T M.length f ∧ (∀ i x, i < k → M[i]? = some x → P wr (f i) x) ∧ ∀ i, k ≤ i → f i = z
theorem Cloned.start {α : Type} (T : TypeId) (P : World → Value → α → Prop) (z : Value) (w : World) (M : List α) : Cloned T P z w (w.alloc (.cells (madeCells #[z] M.length) T)) M 0 :=
  ⟨(Below.refl _ _).alloc (Nat.le_refl _) _, fun _ => z, World.rowIs_made w z M.length T, fun i x h _ => by omega, fun _ _ => rfl⟩
theorem Cloned.step {α : Type} {T : TypeId} {P : World → Value → α → Prop} {z : Value} {w wr w' : World} {M : List α} {k : Nat} (h : Cloned T P z w wr M k) (hP : Stable P) (hset : ∀ W v x n g y, P W v x → W.rowIs w.heap.size T n g → P (W.setCell ⟨w.heap.size, k, none⟩ y) v x)
    (hb : Below wr.heap.size wr w') (v : Value) (x : α) (hx : M[k]? = some x) (hv : P w' v x) : Cloned T P z w (w'.setCell ⟨w.heap.size, k, none⟩ v) M (k + 1) := by
  obtain ⟨h1, f, h2, h3, h4⟩ := h
  have hr : w'.rowIs w.heap.size T M.length f := h2.of_block (hb.block _ h2.lt)
  refine ⟨(h1.trans (hb.mono h1.size)).setCell (Nat.le_refl _) _, _, hr.set k v, fun i y hi hy => ?_, fun i hi => ?_⟩
  · by_cases e : i = k
    · subst e
      rw [if_pos rfl]
      rw [hx] at hy
      injection hy with hy
      subst hy
      exact hset _ _ _ _ _ _ hv hr
    · rw [if_neg e]
      exact hset _ _ _ _ _ _ (hP _ _ _ _ (h3 i y (by omega) hy) hb) hr
  · rw [if_neg (by omega)]
    exact h4 i (by omega)
theorem Cloned.cell {α : Type} {T : TypeId} {P : World → Value → α → Prop} {z : Value} {w wr : World} {M : List α} {k : Nat} (h : Cloned T P z w wr M k) (hk : k < M.length) : wr.cell? ⟨w.heap.size, k, none⟩ = some z ∧ wr.frozen? ⟨w.heap.size, k, none⟩ = false ∧ w.heap.size < wr.heap.size := by
  obtain ⟨h1, f, h2, h3, h4⟩ := h
  exact ⟨by rw [h2.cell hk, h4 k (Nat.le_refl _)], h2.frozen k, h2.lt⟩
theorem Cloned.ends {α : Type} {T : TypeId} {P : World → Value → α → Prop} {z : Value} {w wr : World} {M : List α} {k : Nat} (h : Cloned T P z w wr M k) (hk : M.length ≤ k) : OwS T P wr (.slice (some ⟨w.heap.size, 0, none⟩) M.length M.length) M := by
  obtain ⟨h1, f, h2, h3, h4⟩ := h
  refine ⟨_, rfl, fun _ => ⟨_, f, rfl, h2, fun i x hx => h3 i x ?_ hx⟩⟩
  have := (List.getElem?_eq_some_iff.1 hx).1
  omega
end Go.Proofs.YtgnilcmhaobgeaaGreat

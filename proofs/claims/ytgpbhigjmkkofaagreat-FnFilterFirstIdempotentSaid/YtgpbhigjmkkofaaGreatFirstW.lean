/- What filterFirst's Visit may leave. -/
import Derived.Test.YtgpbhigjmkkofaaGreatFirstD
import Derived.Test.YtgpbhigjmkkofaaGreatCountC
namespace Go.Proofs.YtgpbhigjmkkofaaGreat
open Go.RowKit Go.Deep

theorem hasMem : Has 89 "Type" 89 ∧ Has 89 "Location" 83 :=
  ⟨fun p w => by kernel_rfl, fun p w => by kernel_rfl⟩
theorem hasBui2 : Has 77 "Type" 89 ∧ Has 77 "Location" 83 :=
  ⟨fun p w => by kernel_rfl, fun p w => by kernel_rfl⟩

/-- the text 'find' -/
def findText : Value := .string ⟨#[102, 105, 110, 100]⟩
def MadeF (w : World) (a bn n : Nat) (thr wm : Bool) (pm : Nat) (e : Ending) (w' : World) : Prop :=
  e = .returned (.tuple #[]) ∧ ∃ q, Wr [a] w w' ∧ w.heap.size ≤ q ∧ w'.heap[a]? = some (.cells #[(.iface 77 (.pointer (some ⟨q, 0, none⟩)))] 59 (0, 0)) ∧
    w'.heap[q]? = some (.cells (nd anyTy 20 false false [findText, (.slice (some ⟨bn, 0, none⟩) n n), .bool thr, mapV wm pm, .pointer none]) 84 (0, 0))
def FVisit (w : World) (rw : Prop) (a bn n : Nat) (thr wm : Bool) (pm : Nat) (e : Ending) (w' : World) : Prop := (¬ rw ∧ Kept w e w') ∨ (rw ∧ MadeF w a bn n thr wm pm e w')

theorem FVisit.no {w w' : World} {rw : Prop} {a bn n : Nat} {thr wm : Bool} {pm : Nat} (h : ¬ rw) (hb : Below w.heap.size w w') : FVisit w rw a bn n thr wm pm (.returned (.tuple #[])) w' := Or.inl ⟨h, rfl, hb⟩
theorem MadeF.of {w w2 : World} {o : Obj} {a bn n : Nat} {thr wm : Bool} {pm : Nat} (ha : a < w.heap.size) (hw : Wr [a, w.heap.size] (w.drew.alloc o) w2) (h1 : w2.heap[a]? = some (.cells #[(.iface 77 (.pointer (some ⟨w.heap.size, 0, none⟩)))] 59 (0, 0)))
    (h2 : w2.heap[w.heap.size]? = some (.cells (nd anyTy 20 false false [findText, (.slice (some ⟨bn, 0, none⟩) n n), .bool thr, mapV wm pm, .pointer none]) 84 (0, 0))) : MadeF w a bn n thr wm pm (.returned (.tuple #[])) w2 :=
  ⟨rfl, w.heap.size, ((Wr.refl [a] w).drew.alloc o).trans hw (by intro x hx hlt; simp at hx; rcases hx with rfl | rfl; simp; omega), Nat.le_refl _, h1, h2⟩

end Go.Proofs.YtgpbhigjmkkofaaGreat

/- What filterLen's and filterLast's Visit may leave. Printed by visit53gen.py. -/
import Derived.Test.YtglhhfeaopjinaaGreatLenB
import Derived.Test.YtglhhfeaopjinaaGreatNodeC
namespace Go.Proofs.YtglhhfeaopjinaaGreat
open Go.RowKit Go.Deep

theorem hasBui : Has 39 "SetType" 69 ∧ Has 39 "SetLocation" 67 :=
  ⟨fun p w => by kernel_rfl, fun p w => by kernel_rfl⟩
theorem hasBui2 : Has 39 "Type" 71 ∧ Has 39 "Location" 65 :=
  ⟨fun p w => by kernel_rfl, fun p w => by kernel_rfl⟩
theorem hasMem : Has 68 "Type" 71 ∧ Has 68 "Location" 65 :=
  ⟨fun p w => by kernel_rfl, fun p w => by kernel_rfl⟩
theorem aheadBui (q : Nat) (w : World) : (nilAhead 853 39 (.pointer (some ⟨q, 0, none⟩)) "SetLocation").run Tryz.prog w = .ok (some false) w := by kernel_rfl

/-- what Visit leaves -/
def Kept (w : World) (e : Ending) (w' : World) : Prop := e = .returned (.tuple #[]) ∧ Below w.heap.size w w'
def MadeB (w : World) (x : ByteArray) (a bn n : Nat) (thr : Bool) (M : Value) (e : Ending) (w' : World) : Prop :=
  e = .returned (.tuple #[]) ∧ ∃ q, Wr [a] w w' ∧ w.heap.size ≤ q ∧ w'.heap[a]? = some (.cells #[(.iface 39 (.pointer (some ⟨q, 0, none⟩)))] 54 (0, 0)) ∧
    w'.heap[q]? = some (.cells (nd anyTy 20 false false [.string x, (.slice (some ⟨bn, 0, none⟩) n n), .bool thr, M, .pointer none]) 57 (0, 0))
def BVisit (w : World) (rw : Prop) (x : ByteArray) (a bn n : Nat) (thr : Bool) (M : Value) (e : Ending) (w' : World) : Prop := (¬ rw ∧ Kept w e w') ∨ (rw ∧ MadeB w x a bn n thr M e w')
theorem BVisit.no {w w' : World} {rw : Prop} {x : ByteArray} {a bn n : Nat} {thr : Bool} {M : Value} (h : ¬ rw) (hb : Below w.heap.size w w') : BVisit w rw x a bn n thr M (.returned (.tuple #[])) w' := Or.inl ⟨h, rfl, hb⟩
theorem BVisit.ret {w w' : World} {rw : Prop} {x : ByteArray} {a bn n : Nat} {thr : Bool} {M : Value} {e : Ending} (h : BVisit w rw x a bn n thr M e w') : e = .returned (.tuple #[]) := h.elim (fun y => y.2.1) (fun y => y.2.1)
theorem MadeB.of {w w2 : World} {o : Obj} {x : ByteArray} {a bn n : Nat} {thr : Bool} {M : Value} (ha : a < w.heap.size) (hw : Wr [a, w.heap.size] (w.drew.alloc o) w2) (h1 : w2.heap[a]? = some (.cells #[(.iface 39 (.pointer (some ⟨w.heap.size, 0, none⟩)))] 54 (0, 0)))
    (h2 : w2.heap[w.heap.size]? = some (.cells (nd anyTy 20 false false [.string x, (.slice (some ⟨bn, 0, none⟩) n n), .bool thr, M, .pointer none]) 57 (0, 0))) : MadeB w x a bn n thr M (.returned (.tuple #[])) w2 :=
  ⟨rfl, w.heap.size, ((Wr.refl [a] w).drew.alloc o).trans hw (by intro y hy hlt; simp at hy; rcases hy with rfl | rfl; simp; omega), Nat.le_refl _, h1, h2⟩
theorem MadeB.of0 {w w2 : World} {o : Obj} {x : ByteArray} {a bn n : Nat} {thr : Bool} {M : Value} (ha : a < w.heap.size) (hw : Wr [a, w.heap.size] (w.alloc o) w2) (h1 : w2.heap[a]? = some (.cells #[(.iface 39 (.pointer (some ⟨w.heap.size, 0, none⟩)))] 54 (0, 0)))
    (h2 : w2.heap[w.heap.size]? = some (.cells (nd anyTy 20 false false [.string x, (.slice (some ⟨bn, 0, none⟩) n n), .bool thr, M, .pointer none]) 57 (0, 0))) : MadeB w x a bn n thr M (.returned (.tuple #[])) w2 :=
  ⟨rfl, w.heap.size, ((Wr.refl [a] w).alloc o).trans hw (by intro y hy hlt; simp at hy; rcases hy with rfl | rfl; simp; omega), Nat.le_refl _, h1, h2⟩
/-- the same, seen from the world before the receiver was made -/
theorem Kept.pre {w w' : World} {o : Obj} {e : Ending} (h : Kept (w.alloc o) e w') : Kept w e w' :=
  ⟨h.1, ((Below.refl _ _).alloc (Nat.le_refl _) o).trans (h.2.mono (by rw [alloc_size]; omega))⟩
theorem MadeB.pre {w w' : World} {o : Obj} {x : ByteArray} {a bn n : Nat} {thr : Bool} {M : Value} {e : Ending} (h : MadeB (w.alloc o) x a bn n thr M e w') : MadeB w x a bn n thr M e w' := by
  obtain ⟨h1, q, h2, h3, h4, h5⟩ := h
  exact ⟨h1, q, ((Wr.refl [a] w).alloc o).trans h2 (fun y hy _ => hy), by rw [alloc_size] at h3; omega, h4, h5⟩
theorem BVisit.pre {w w' : World} {o : Obj} {rw : Prop} {x : ByteArray} {a bn n : Nat} {thr : Bool} {M : Value} {e : Ending} (h : BVisit (w.alloc o) rw x a bn n thr M e w') : BVisit w rw x a bn n thr M e w' :=
  h.elim (fun y => Or.inl ⟨y.1, y.2.pre⟩) (fun y => Or.inr ⟨y.1, y.2.pre⟩)

def IsFilter (inn : ByteArray) (n : Int) : Prop := inn.toList = [102, 105, 108, 116, 101, 114] ∧ n = 2
def LenRw (on : ByteArray) (m : Int) (inn : ByteArray) (n : Int) : Prop := on.toList = [108, 101, 110] ∧ m = 1 ∧ IsFilter inn n
def LastRw (on : ByteArray) (m : Int) (inn : ByteArray) (n : Int) : Prop := on.toList = [108, 97, 115, 116] ∧ m = 1 ∧ IsFilter inn n
def MemRw (pk pv : Int) (opt : Bool) (inn : ByteArray) (n : Int) : Prop := pk = 1 ∧ pv = -1 ∧ opt = false ∧ IsFilter inn n
theorem LenRw.no_n {on inn : ByteArray} {m n : Int} (h : ¬ LenRw on m inn n) (h1 : on.toList = [108, 101, 110]) (h2 : m = 1) (h3 : inn.toList = [102, 105, 108, 116, 101, 114]) : (n == 2) = false := by
  have : ¬ n = 2 := fun e => h ⟨h1, h2, h3, e⟩
  simpa using this
theorem LenRw.yes_n {on inn : ByteArray} {m n : Int} (h : LenRw on m inn n) : (n == 2) = true := by simpa using h.2.2.2
theorem MemRw.no_n {inn : ByteArray} {pk pv n : Int} {opt : Bool} (h : ¬ MemRw pk pv opt inn n) (h0 : pk = 1) (h1 : pv = -1) (h2 : opt = false) (h3 : inn.toList = [102, 105, 108, 116, 101, 114]) : (n == 2) = false := by
  have : ¬ n = 2 := fun e => h ⟨h0, h1, h2, h3, e⟩
  simpa using this
theorem LastRw.no_n {on inn : ByteArray} {m n : Int} (h : ¬ LastRw on m inn n) (h1 : on.toList = [108, 97, 115, 116]) (h2 : m = 1) (h3 : inn.toList = [102, 105, 108, 116, 101, 114]) : (n == 2) = false := by
  have : ¬ n = 2 := fun e => h ⟨h1, h2, h3, e⟩
  simpa using this
theorem LastRw.yes_n {on inn : ByteArray} {m n : Int} (h : LastRw on m inn n) : (n == 2) = true := by simpa using h.2.2.2
end Go.Proofs.YtglhhfeaopjinaaGreat

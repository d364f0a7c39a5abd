/- The trees of filterFirst's laws: their shapes in memory. -/
import Derived.Test.YtgpbhigjmkkofaaGreatFirstL
namespace Go.Proofs.YtgpbhigjmkkofaaGreat
open Go.RowKit Go.Deep

inductive FK where
  | mem
  | bui
  | idn
inductive FP where
  | no
  | num
  | str

def inV (ik : Bool) (pi : Nat) : Value := match ik with
  | true => (.iface 77 (.pointer (some ⟨pi, 0, none⟩)))
  | false => (.iface 37 (.pointer (some ⟨pi, 0, none⟩)))
def mapV (wm : Bool) (pm : Nat) : Value := match wm with
  | true => (.iface 39 (.pointer (some ⟨pm, 0, none⟩)))
  | false => .nilIface
def propV (P : FP) (pp : Nat) : Value := match P with
  | .no => .nilIface
  | .num => (.iface 39 (.pointer (some ⟨pp, 0, none⟩)))
  | .str => (.iface 111 (.pointer (some ⟨pp, 0, none⟩)))
def rootV (K : FK) (pr : Nat) : Value := match K with
  | .mem => (.iface 89 (.pointer (some ⟨pr, 0, none⟩)))
  | .bui => (.iface 77 (.pointer (some ⟨pr, 0, none⟩)))
  | .idn => (.iface 37 (.pointer (some ⟨pr, 0, none⟩)))
def treeV (K : FK) (ik wm : Bool) (pr pi pm ba n : Nat) : Value :=
  .agg #[(match K with | .mem => (.pointer (some ⟨pr, 0, none⟩)) | _ => .pointer none), (match K with | .bui => (.pointer (some ⟨pr, 0, none⟩)) | _ => .pointer none), (match K with | .idn => (.pointer (some ⟨pr, 0, none⟩)) | _ => .pointer none), (match ik with | true => (.pointer (some ⟨pi, 0, none⟩)) | false => .pointer none), (.slice (some ⟨ba, 0, none⟩) n n), (match ik, wm with | true, true => (.pointer (some ⟨pm, 0, none⟩)) | _, _ => .pointer none)]

def FIn (w' : World) (ik wm : Bool) (inn : ByteArray) (n pi pm bn : Nat) : Prop := match ik with
  | true => w'.heap[pi]? = some (.cells (nd0 [.string inn, (.slice (some ⟨bn, 0, none⟩) n n), .bool false, mapV wm pm, .pointer none]) 84 (0, 0))
  | false => IdAt w' pi inn
def FRoot (w' : World) (K : FK) (P : FP) (on : ByteArray) (m : Nat) (pv : Int) (opt ik : Bool) (pr pp bo pi : Nat) : Prop := match K with
  | .mem => w'.heap[pr]? = some (.cells (nd0 [inV ik pi, propV P pp, .bool opt, .bool false]) 110 (0, 0)) ∧ (match P with | .num => IntAt w' pp pv | _ => True)
  | .bui => w'.heap[pr]? = some (.cells (nd0 [.string on, (.slice (some ⟨bo, 0, none⟩) m m), .bool false, .nilIface, .pointer none]) 84 (0, 0)) ∧ (0 < m → w'.cell? ⟨bo, 0, none⟩ = some (inV ik pi))
  | .idn => IdAt w' pr on

structure FF (w w' : World) (K : FK) (P : FP) (on : ByteArray) (m : Nat) (pv : Int) (opt ik wm : Bool) (inn : ByteArray) (n pr pp bo pi pm ba bn b0 : Nat) : Prop where
  below : Below w.heap.size w w'
  args : Args w' ba bn b0 n
  inner : FIn w' ik wm inn n pi pm bn
  root : FRoot w' K P on m pv opt ik pr pp bo pi

theorem FF.of {w wr W : World} {n : Nat} (hl : Laid2 w wr n n) (hw : Wr [w.heap.size, w.heap.size + 1] wr W) {K : FK} {P : FP} {on : ByteArray} {m : Nat} {pv : Int} {opt ik wm : Bool} {inn : ByteArray} {pr pp bo pi pm : Nat}
    (hi : FIn W ik wm inn n pi pm (w.heap.size + 1 + 1)) (hr : FRoot W K P on m pv opt ik pr pp bo pi) :
    FF w W K P on m pv opt ik wm inn n pr pp bo pi pm (w.heap.size + 1 + 1 + 1) (w.heap.size + 1 + 1) (w.heap.size + 4) :=
  ⟨hl.below.trans (hw.below (by have := hl.size; omega) (by simp)), hl.args.keep hw (by simp; omega), hi, hr⟩

def FFPost (w : World) (K : FK) (P : FP) (on : ByteArray) (m : Nat) (pv : Int) (opt ik wm : Bool) (inn : ByteArray) (n : Nat) (e : Ending) (w' : World) : Prop :=
  ∃ pr pp bo pi pm ba bn b0, e = .returned (.tuple #[treeV K ik wm pr pi pm ba n, rootV K pr]) ∧ FF w w' K P on m pv opt ik wm inn n pr pp bo pi pm ba bn b0
end Go.Proofs.YtgpbhigjmkkofaaGreat

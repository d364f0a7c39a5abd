/- n003_53: the inner call in memory; two pointers that differ. -/
import Derived.Test.YtglhhfeaopjinaaGreatLenW
namespace Go.Proofs.YtglhhfeaopjinaaGreat
open Go.RowKit Go.Deep

/-- the inner call 'inn(..)', its arguments and what was made for them -/
structure Inn (w : World) (pi ba bn b0 n : Nat) (inn : ByteArray) (M : Value) : Prop where
  ids : Ids w ba b0 n
  nodes : NodesAt w bn b0 n
  inner : w.heap[pi]? = some (.cells (nd0 [.string inn, (.slice (some ⟨bn, 0, none⟩) n n), .bool false, M, .pointer none]) 57 (0, 0))
theorem Inn.move {w w' : World} {pi ba bn b0 n : Nat} {inn : ByteArray} {M : Value} (h : Inn w pi ba bn b0 n inn M) (hk : Keeps w w') : Inn w' pi ba bn b0 n inn M :=
  ⟨h.ids.move hk, h.nodes.move hk, hk _ _ h.inner⟩
theorem Inn.of {w : World} {ba bn b0 n : Nat} {inn : ByteArray} (hi : Ids w ba b0 n) (hn : NodesAt w bn b0 n) (M : Value) (o : Obj) :
    Inn ((w.alloc (.cells (nd0 [.string inn, (.slice (some ⟨bn, 0, none⟩) n n), .bool false, M, .pointer none]) 57)).alloc o) w.heap.size ba bn b0 n inn M :=
  ⟨hi.move ((Keeps.alloc _ _).trans (Keeps.alloc _ _)), hn.move ((Keeps.alloc _ _).trans (Keeps.alloc _ _)), (Keeps.alloc _ _) _ _ (alloc_new _ _)⟩
theorem below2 {w : World} {B : Nat} {w1 : World} (h : Below B w w1) (hB : B ≤ w1.heap.size) (o o2 : Obj) : Below B w ((w1.alloc o).alloc o2) :=
  (h.alloc hB _).alloc (by rw [alloc_size]; omega) _

/-- the root cell (a) over the node of the outer call (a - 1) -/
theorem rootOf {w : World} (o o2 : Obj) : ((w.alloc o).alloc o2).heap[w.heap.size + 1]? = some o2 := alloc_new' (by rw [alloc_size])
theorem nodeOf {w : World} (o o2 : Obj) : ((w.alloc o).alloc o2).heap[w.heap.size]? = some o := by rw [alloc_old _ (by rw [alloc_size]; omega)]; exact alloc_new _ _
theorem keeps2 (w : World) (o o2 : Obj) : Keeps w ((w.alloc o).alloc o2) := (Keeps.alloc _ _).trans (Keeps.alloc _ _)
/-- what was there before the root cell was made stays where only the root cell is written -/
theorem keepsWr {w w' : World} {o o2 : Obj} (h : Wr [w.heap.size + 1] ((w.alloc o).alloc o2) w') : Keeps (w.alloc o) w' := fun k x hk =>
  h.keep (Keeps.alloc _ _ _ _ hk) (by have := lt_of_heap hk; rw [alloc_size] at this; simp; omega)

theorem neq_ptr_other {tp te : TypeId} {s : Nat} (hp : Tryz.prog.underlying tp = some (.pointer te)) (hte : (Tryz.prog.info? te).map (fun i => i.size) = some (s + 1)) {a b : Nat} {ca cb : Array Value} {ta tb : TypeId} {w : World}
    (hne : a ≠ b) (ha : w.heap[a]? = some (.cells ca ta (0, 0))) (hb : w.heap[b]? = some (.cells cb tb (0, 0))) :
    (binOp .neq tp (.pointer (some ⟨a, 0, none⟩)) (.pointer (some ⟨b, 0, none⟩))).run Tryz.prog w = .ok (.bool true) w := by
  obtain ⟨j, hj, hs⟩ := Option.map_eq_some_iff.1 hte
  have hne' : (⟨a, 0, none⟩ : Addr) ≠ ⟨b, 0, none⟩ := fun h => hne (by injection h)
  have hsz : j.size ≠ 0 := by omega
  have h : ∀ d : Nat, (Op.equalIn (d + 1) tp (.pointer (some ⟨a, 0, none⟩)) (.pointer (some ⟨b, 0, none⟩))).run Tryz.prog w = .ok false w := fun d => by
    simp [Op.equalIn, run_underlying hp, sizeOf, typeInfo, hj, hsz, run_sameAddr_other w hne' ha hb]
  simp only [binOp]
  simp [Op.equal, Op.maxDepth, h 9999]
theorem eql_ptr_other {tp te : TypeId} {s : Nat} (hp : Tryz.prog.underlying tp = some (.pointer te)) (hte : (Tryz.prog.info? te).map (fun i => i.size) = some (s + 1)) {a b : Nat} {ca cb : Array Value} {ta tb : TypeId} {w : World}
    (hne : a ≠ b) (ha : w.heap[a]? = some (.cells ca ta (0, 0))) (hb : w.heap[b]? = some (.cells cb tb (0, 0))) :
    (binOp .eql tp (.pointer (some ⟨a, 0, none⟩)) (.pointer (some ⟨b, 0, none⟩))).run Tryz.prog w = .ok (.bool false) w := by
  obtain ⟨j, hj, hs⟩ := Option.map_eq_some_iff.1 hte
  have hne' : (⟨a, 0, none⟩ : Addr) ≠ ⟨b, 0, none⟩ := fun h => hne (by injection h)
  exact run_eql_ptr_other w hp hj (by omega) hne' ha hb
theorem szBui : (Tryz.prog.info? 57).map (fun i => i.size) = some 16 := by kernel_rfl
theorem neNilBui (q : Nat) (w : World) : (binOp .neq 39 (.pointer (some ⟨q, 0, none⟩)) (.pointer none)).run Tryz.prog w = .ok (.bool true) w := by kernel_rfl
theorem eqNilBui (q : Nat) (w : World) : (binOp .eql 39 (.pointer (some ⟨q, 0, none⟩)) (.pointer none)).run Tryz.prog w = .ok (.bool false) w := by kernel_rfl
theorem eqNilNode (w : World) : (binOp .eql 54 .nilIface .nilIface).run Tryz.prog w = .ok (.bool true) w := by kernel_rfl
/-- some bool; where it is true, P holds -/
def BytesB (w : World) (P : Prop) (e : Ending) (w' : World) : Prop := ∃ b : Bool, e = .returned (.bool b) ∧ (b = true → P) ∧ w = w'
end Go.Proofs.YtglhhfeaopjinaaGreat

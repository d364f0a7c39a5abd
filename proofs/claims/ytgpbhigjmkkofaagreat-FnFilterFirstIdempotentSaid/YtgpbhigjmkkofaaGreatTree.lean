/- The shapes of the trees in memory: for whatever world; no condition. -/
import Derived.Test.YtgpbhigjmkkofaaGreatHeap
import Derived.Test.YtgpbhigjmkkofaaGreatNode
import Derived.Deep.OwnRows
import Derived.LaidEqlPtr
namespace Go.Proofs.YtgpbhigjmkkofaaGreat
open Go.RowKit Go.Deep

def IntAt (w : World) (b : Nat) (v : Int) : Prop := w.heap[b]? = some (.cells (nd0 [.int .i64 v]) 52 (0, 0))
def IdAt (w : World) (b : Nat) (s : ByteArray) : Prop := w.heap[b]? = some (.cells (nd0 [.string s]) 54 (0, 0))
def FloatAt (w : World) (b : Nat) (v : Value) : Prop := w.heap[b]? = some (.cells (nd0 [v]) 57 (0, 0))
abbrev ptr (b : Nat) : Value := .pointer (some ⟨b, 0, none⟩)
abbrev iInt (b : Nat) : Value := .iface 39 (ptr b)
abbrev iId (b : Nat) : Value := .iface 37 (ptr b)
abbrev iBuiltin (b : Nat) : Value := .iface 77 (ptr b)
abbrev iBinary (b : Nat) : Value := .iface 60 (ptr b)
abbrev row0 (b n : Nat) : Value := .slice (some ⟨b, 0, none⟩) n n

theorem ta_hit {T e : TypeId} (hu : Tryz.prog.underlying T = some (.pointer e)) (xt : TypeId) (v : Value) (w : World) : (Instr.typeAssert (.iface T v) xt T true).run Tryz.prog w = .ok (.tuple #[v, .bool true]) w := by
  simp [Instr.typeAssert, run_underlying hu]
theorem ta_miss {T e : TypeId} (hu : Tryz.prog.underlying T = some (.pointer e)) (hz : ∀ w, (zeroValue T).run Tryz.prog w = .ok (.pointer none) w) {U : TypeId} (hne : U ≠ T) (xt : TypeId) (v : Value) (w : World) : (Instr.typeAssert (.iface U v) xt T true).run Tryz.prog w = .ok (.tuple #[.pointer none, .bool false]) w := by
  simp [Instr.typeAssert, run_underlying hu, hne, hz, Result.andThen]
theorem ta_nil {T e : TypeId} (hu : Tryz.prog.underlying T = some (.pointer e)) (hz : ∀ w, (zeroValue T).run Tryz.prog w = .ok (.pointer none) w) (xt : TypeId) (w : World) : (Instr.typeAssert .nilIface xt T true).run Tryz.prog w = .ok (.tuple #[.pointer none, .bool false]) w := by
  simp [Instr.typeAssert, run_underlying hu, hz, Result.andThen]
theorem neq_ptr_same {tp te : TypeId} (hp : Tryz.prog.underlying tp = some (.pointer te)) (hte : (Tryz.prog.info? te).isSome = true) (a : Addr) (w : World) :
    (binOp .neq tp (.pointer (some a)) (.pointer (some a))).run Tryz.prog w = .ok (.bool false) w := by
  obtain ⟨j, hj⟩ := Option.isSome_iff_exists.1 hte
  have h : ∀ d : Nat, (Op.equalIn (d + 1) tp (.pointer (some a)) (.pointer (some a))).run Tryz.prog w = .ok true w := fun d => by
    simp [Op.equalIn, run_underlying hp, sizeOf, typeInfo, hj, run_sameAddr_same]
  simp only [binOp]
  simp [Op.equal, Op.maxDepth, h 9999]
theorem sInt : (Tryz.prog.info? 52).isSome = true := by kernel_rfl
theorem sBui : (Tryz.prog.info? 84).isSome = true := by kernel_rfl
theorem sBin : (Tryz.prog.info? 66).isSome = true := by kernel_rfl
theorem sId : (Tryz.prog.info? 54).isSome = true := by kernel_rfl
theorem zBui (w : World) : (zeroValue 77).run Tryz.prog w = .ok (.pointer none) w := by kernel_rfl
theorem zBin (w : World) : (zeroValue 60).run Tryz.prog w = .ok (.pointer none) w := by kernel_rfl
theorem zInt (w : World) : (zeroValue 39).run Tryz.prog w = .ok (.pointer none) w := by kernel_rfl
theorem zFlo (w : World) : (zeroValue 55).run Tryz.prog w = .ok (.pointer none) w := by kernel_rfl
theorem zId (w : World) : (zeroValue 37).run Tryz.prog w = .ok (.pointer none) w := by kernel_rfl

/-- n integer nodes 0, 1, .. in the blocks b0, b0 + 1, ..; the array of their pointers in block ba, that of the nodes in block bn. -/
structure Args (w : World) (ba bn b0 n : Nat) : Prop where
  ptrs : w.rowIs ba 39 n (fun i => ptr (b0 + i))
  nodes : w.rowIs bn 59 n (fun i => iInt (b0 + i))
  ints : ∀ i, i < n → IntAt w (b0 + i) i

theorem Args.move {w w' : World} {ba bn b0 n : Nat} (h : Args w ba bn b0 n) (hb : ∀ k, k < w.heap.size → (k = ba ∨ k = bn ∨ (b0 ≤ k ∧ k < b0 + n)) → w'.heap[k]? = w.heap[k]?) : Args w' ba bn b0 n :=
  ⟨h.ptrs.of_block (hb _ h.ptrs.lt (Or.inl rfl)), h.nodes.of_block (hb _ h.nodes.lt (Or.inr (Or.inl rfl))), fun i hi => by
    have := h.ints i hi
    unfold IntAt at this ⊢
    rw [hb _ (lt_of_heap this) (Or.inr (Or.inr ⟨by omega, by omega⟩))]
    exact this⟩
theorem Args.keep {w w' : World} {ba bn b0 n : Nat} {L : List Nat} (h : Args w ba bn b0 n) (hw : Wr L w w') (hL : ∀ x ∈ L, x ≠ ba ∧ x ≠ bn ∧ ¬ (b0 ≤ x ∧ x < b0 + n)) : Args w' ba bn b0 n :=
  h.move fun k hk hc => hw.block k hk fun hm => by
    have := hL k hm
    rcases hc with rfl | rfl | hc
    · exact this.1 rfl
    · exact this.2.1 rfl
    · exact this.2.2 hc
theorem Args.below {w w' : World} {ba bn b0 n : Nat} (h : Args w ba bn b0 n) (hw : Below w.heap.size w w') : Args w' ba bn b0 n := h.move fun k hk _ => hw.block k hk
end Go.Proofs.YtgpbhigjmkkofaaGreat

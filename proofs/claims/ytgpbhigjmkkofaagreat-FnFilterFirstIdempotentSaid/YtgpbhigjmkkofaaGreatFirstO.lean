/- zzFFBuild's second loop, over the outer call's arguments. -/
import Derived.Test.YtgpbhigjmkkofaaGreatFirstS
namespace Go.Proofs.YtgpbhigjmkkofaaGreat
open Go.RowKit Go.Deep

/-- what the second loop has laid after j rounds -/
structure Outer (w wr w2 : World) (bo m j : Nat) (V : Value) (ik wm : Bool) (inn : ByteArray) (n pi pm : Nat) (vi vm : Value) : Prop where
  wrs : Wr [w.heap.size, w.heap.size + 1] wr w2
  res : w2.heap[w.heap.size]? = some (.cells #[.pointer none, .pointer none, .pointer none, .pointer none, .slice none 0 0, .pointer none] 91 (0, 0))
  loc : w2.heap[w.heap.size + 1]? = some (.cells #[.pointer none, .pointer none, .pointer none, vi, (.slice (some ⟨w.heap.size + 1 + 1 + 1, 0, none⟩) n n), vm] 91 (0, 0))
  inner : FIn w2 ik wm inn n pi pm (w.heap.size + 1 + 1)
  row : ∃ f, w2.rowIs bo 59 m f ∧ (0 < j → f 0 = V)
  ends : wr.heap.size ≤ bo ∧ bo ≠ pi ∧ w.heap.size + 1 < wr.heap.size ∧ w.heap.size + 1 < pi

theorem FIn.keep {L : List Nat} {w w' : World} {ik wm : Bool} {inn : ByteArray} {n pi pm bn : Nat} (h : FIn w ik wm inn n pi pm bn) (hw : Wr L w w') (hn : pi ∉ L) : FIn w' ik wm inn n pi pm bn := by
  cases ik
  · exact hw.keep h hn
  · exact hw.keep h hn

theorem Outer.set {w wr w2 : World} {bo m j : Nat} {V : Value} {ik wm : Bool} {inn : ByteArray} {n pi pm : Nat} {vi vm : Value} (h : Outer w wr w2 bo m j V ik wm inn n pi pm vi vm) (v : Value) (hv : j = 0 → v = V) :
    Outer w wr (w2.setCell ⟨bo, j, none⟩ v) bo m (j + 1) V ik wm inn n pi pm vi vm := by
  have he := h.ends
  obtain ⟨f, hr, hf⟩ := h.row
  refine ⟨h.wrs.set (by intro hx; dsimp only at hx; omega) v, ?_, ?_, h.inner.keep ((Wr.refl [bo] w2).set (by simp) v) (by simp; omega), ⟨_, hr.set j v, fun _ => ?_⟩, he⟩
  · rw [set_other (by intro hx; dsimp only at hx; omega)]; exact h.res
  · rw [set_other (by intro hx; dsimp only at hx; omega)]; exact h.loc
  · by_cases h0 : 0 = j
    · subst h0; simp [hv]
    · have := hf (by omega); simp [h0, this]

theorem Outer.alloc {w wr w2 : World} {bo m j : Nat} {V : Value} {ik wm : Bool} {inn : ByteArray} {n pi pm : Nat} {vi vm : Value} (h : Outer w wr w2 bo m j V ik wm inn n pi pm vi vm) (o : Obj) :
    Outer w wr (w2.alloc o) bo m j V ik wm inn n pi pm vi vm := by
  obtain ⟨f, hr, hf⟩ := h.row
  refine ⟨h.wrs.alloc o, ?_, ?_, h.inner.keep ((Wr.refl [] w2).alloc o) (by simp), ⟨f, hr.alloc o, hf⟩, h.ends⟩
  · rw [alloc_old _ (lt_of_heap h.res)]; exact h.res
  · rw [alloc_old _ (lt_of_heap h.loc)]; exact h.loc

theorem Outer.start {w wr W : World} {bo m : Nat} {V : Value} {ik wm : Bool} {inn : ByteArray} {n pi pm : Nat} {vi vm : Value} (hw : Wr [w.heap.size, w.heap.size + 1] wr W)
    (hres : W.heap[w.heap.size]? = some (.cells #[.pointer none, .pointer none, .pointer none, .pointer none, .slice none 0 0, .pointer none] 91 (0, 0)))
    (hloc : W.heap[w.heap.size + 1]? = some (.cells #[.pointer none, .pointer none, .pointer none, vi, (.slice (some ⟨w.heap.size + 1 + 1 + 1, 0, none⟩) n n), vm] 91 (0, 0)))
    (hin : FIn W ik wm inn n pi pm (w.heap.size + 1 + 1)) (hbo : bo = W.heap.size) (he : wr.heap.size ≤ bo ∧ bo ≠ pi ∧ w.heap.size + 1 < wr.heap.size ∧ w.heap.size + 1 < pi) :
    Outer w wr (W.alloc (.cells (madeCells #[.nilIface] m) 59)) bo m 0 V ik wm inn n pi pm vi vm := by
  subst hbo
  refine ⟨hw.alloc _, ?_, ?_, hin.keep ((Wr.refl [] W).alloc _) (by simp), ⟨_, World.rowIs_made W .nilIface m _, fun h => absurd h (by omega)⟩, he⟩
  · rw [alloc_old _ (lt_of_heap hres)]; exact hres
  · rw [alloc_old _ (lt_of_heap hloc)]; exact hloc

theorem Outer.done {w wr w2 W : World} {bo m : Nat} {V : Value} {ik wm : Bool} {inn : ByteArray} {n pi pm : Nat} {vi vm : Value} (hl : Laid2 w wr n n) (h : Outer w wr w2 bo m m V ik wm inn n pi pm vi vm)
    (hw : Wr [w.heap.size, w.heap.size + 1] w2 W) (hV : V = inV ik pi) {P : FP} {on : ByteArray} {pv : Int} {opt : Bool} {pr : Nat}
    (hr : W.heap[pr]? = some (.cells (nd0 [.string on, (.slice (some ⟨bo, 0, none⟩) m m), .bool false, .nilIface, .pointer none]) 84 (0, 0))) :
    FF w W .bui P on m pv opt ik wm inn n pr 0 bo pi pm (w.heap.size + 1 + 1 + 1) (w.heap.size + 1 + 1) (w.heap.size + 4) := by
  have he := h.ends
  obtain ⟨f, hrow, hf⟩ := h.row
  refine FF.of hl (h.wrs.trans hw (fun x hx _ => hx)) (h.inner.keep hw (by simp; omega)) ⟨hr, fun hm => ?_⟩
  rw [hw.cell hrow.lt (by simp; omega), hrow.cell hm, hf hm, hV]
end Go.Proofs.YtgpbhigjmkkofaaGreat

/- zzFFBuild's loop: what it has laid after k rounds. -/
import Derived.Test.YtgpbhigjmkkofaaGreatCountA
namespace Go.Proofs.YtgpbhigjmkkofaaGreat
open Go.RowKit Go.Deep

/-- what the loop has laid after k rounds: blocks B, B + 1: the result and the local; B + 2: the nodes; B + 3: the pointers -/
structure Laid2 (w wr : World) (n k : Nat) : Prop where
  size : wr.heap.size = w.heap.size + 4 + k
  below : Below w.heap.size w wr
  res : wr.heap[w.heap.size]? = some (.cells #[.pointer none, .pointer none, .pointer none, .pointer none, .slice none 0 0, .pointer none] 91 (0, 0))
  loc : wr.heap[w.heap.size + 1]? = some (.cells #[.pointer none, .pointer none, .pointer none, .pointer none, (.slice (some ⟨w.heap.size + 1 + 1 + 1, 0, none⟩) n n), .pointer none] 91 (0, 0))
  ptrs : wr.rowIs (w.heap.size + 1 + 1 + 1) 39 n (fun i => if i < k then ptr (w.heap.size + 4 + i) else .pointer none)
  nodes : wr.rowIs (w.heap.size + 1 + 1) 59 n (fun i => if i < k then iInt (w.heap.size + 4 + i) else .nilIface)
  ints : ∀ i, i < k → IntAt wr (w.heap.size + 4 + i) i

theorem Laid2.args {w wr : World} {n : Nat} (h : Laid2 w wr n n) : Args wr (w.heap.size + 1 + 1 + 1) (w.heap.size + 1 + 1) (w.heap.size + 4) n :=
  ⟨h.ptrs.congr fun i hi => by simp [hi], h.nodes.congr fun i hi => by simp [hi], h.ints⟩

theorem Laid2.step {w wr : World} {n k : Nat} (h : Laid2 w wr n k) (_hk : k < n) :
    Laid2 w (((wr.setCell ⟨w.heap.size + 1 + 1 + 1, k, none⟩ (ptr wr.heap.size)).setCell ⟨w.heap.size + 1 + 1, k, none⟩ (iInt wr.heap.size)).alloc (.cells (nd0 [.int .i64 k]) 52)) n (k + 1) := by
  obtain ⟨hs, hb, h0, h1, rp, rn, hi⟩ := h
  have e : wr.heap.size = w.heap.size + 4 + k := hs
  have es : ((wr.setCell ⟨w.heap.size + 1 + 1 + 1, k, none⟩ (ptr wr.heap.size)).setCell ⟨w.heap.size + 1 + 1, k, none⟩ (iInt wr.heap.size)).heap.size = wr.heap.size := by rw [set_size, set_size]
  refine ⟨by rw [alloc_size, es, hs]; omega, ((hb.setCell (by simp; omega) _).setCell (by simp; omega) _).alloc (by rw [es]; omega) _, ?_, ?_, ?_, ?_, ?_⟩
  · rw [alloc_old _ (by omega), set_other (by simp; omega), set_other (by simp; omega)]; exact h0
  · rw [alloc_old _ (by omega), set_other (by simp), set_other (by simp)]; exact h1
  · refine (((rp.set k _).setOther (by simp) _).alloc _).congr fun i _ => ?_
    by_cases h1 : i = k
    · subst h1; simp [e]
    · by_cases h2 : i < k
      · rw [if_neg h1, if_pos h2, if_pos (by omega)]
      · rw [if_neg h1, if_neg h2, if_neg (by omega)]
  · refine (((rn.setOther (by simp) _).set k _).alloc _).congr fun i _ => ?_
    by_cases h1 : i = k
    · subst h1; simp [e]
    · by_cases h2 : i < k
      · rw [if_neg h1, if_pos h2, if_pos (by omega)]
      · rw [if_neg h1, if_neg h2, if_neg (by omega)]
  · intro i hik
    unfold IntAt
    by_cases h1 : i = k
    · subst h1; exact alloc_new' (by rw [es]; omega)
    · rw [alloc_old _ (by omega), set_other (by simp; omega), set_other (by simp; omega)]; exact hi i (by omega)

theorem Laid2.start (w : World) (n : Nat) : Laid2 w ((((w.alloc (.cells #[.pointer none, .pointer none, .pointer none, .pointer none, .slice none 0 0, .pointer none] 91)).alloc (.cells #[.pointer none, .pointer none, .pointer none, .pointer none, (.slice (some ⟨w.heap.size + 1 + 1 + 1, 0, none⟩) n n), .pointer none] 91)).alloc (.cells (madeCells #[.nilIface] n) 59)).alloc (.cells (madeCells #[.pointer none] n) 39)) n 0 := by
  refine ⟨by simp only [alloc_size], (((Below.refl _ _).alloc (Nat.le_refl _) _).alloc (by simp only [alloc_size]; omega) _).alloc (by simp only [alloc_size]; omega) _ |>.alloc (by simp only [alloc_size]; omega) _, ?_, ?_, ?_, ?_, fun i hi => by omega⟩
  · rw [alloc_old _ (by simp only [alloc_size]; omega), alloc_old _ (by simp only [alloc_size]; omega), alloc_old _ (by simp only [alloc_size]; omega)]; exact alloc_new _ _
  · rw [alloc_old _ (by simp only [alloc_size]; omega), alloc_old _ (by simp only [alloc_size]; omega)]; exact alloc_new' (by simp only [alloc_size])
  · have h := World.rowIs_made (((w.alloc (.cells #[.pointer none, .pointer none, .pointer none, .pointer none, .slice none 0 0, .pointer none] 91)).alloc (.cells #[.pointer none, .pointer none, .pointer none, .pointer none, (.slice (some ⟨w.heap.size + 1 + 1 + 1, 0, none⟩) n n), .pointer none] 91)).alloc (.cells (madeCells #[.nilIface] n) 59)) (.pointer none) n 39
    simp only [alloc_size] at h
    exact h.congr fun i _ => by simp
  · have h := World.rowIs_made ((w.alloc (.cells #[.pointer none, .pointer none, .pointer none, .pointer none, .slice none 0 0, .pointer none] 91)).alloc (.cells #[.pointer none, .pointer none, .pointer none, .pointer none, (.slice (some ⟨w.heap.size + 1 + 1 + 1, 0, none⟩) n n), .pointer none] 91 (0, 0))) .nilIface n 59
    simp only [alloc_size] at h
    exact (h.alloc _).congr fun i _ => by simp
end Go.Proofs.YtgpbhigjmkkofaaGreat

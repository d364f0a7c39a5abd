/- Small laws on blocks of the heap, for whatever world: no program in sight, no condition. -/
import Derived.WalkKit
import Derived.ProofKit
import Derived.Deep.QuietTactic
namespace Go.Proofs.YtgnilcmhaobgeaaGreat
open Go.RowKit

theorem cell_of_block {w : World} {b : Nat} {c : Array Value} {t : TypeId} {f : Nat × Nat} (h : w.heap[b]? = some (.cells c t f)) (i : Nat) : w.cell? ⟨b, i, none⟩ = c[i]? := by
  simp [World.cell?, h]
theorem free_of_block {w : World} {b : Nat} {c : Array Value} {t : TypeId} (h : w.heap[b]? = some (.cells c t (0, 0))) (i : Nat) : w.frozen? ⟨b, i, none⟩ = false := by
  simp [World.frozen?, h]
theorem lt_of_heap {w : World} {b : Nat} {o : Obj} (h : w.heap[b]? = some o) : b < w.heap.size := by
  by_cases hb : b < w.heap.size
  · exact hb
  · rw [Array.getElem?_eq_none (by omega)] at h; cases h
theorem lt_of_cell {w : World} {a : Addr} {v : Value} (h : w.cell? a = some v) : a.block < w.heap.size := by
  unfold World.cell? at h
  split at h
  · rename_i hb; exact lt_of_heap hb
  · cases h
theorem set_block {w : World} {b : Nat} {c : Array Value} {t : TypeId} {f : Nat × Nat} (h : w.heap[b]? = some (.cells c t f)) (i : Nat) (v : Value) :
    (w.setCell ⟨b, i, none⟩ v).heap[b]? = some (.cells (c.setIfInBounds i v) t f) := by
  simp [World.setCell, Array.getElem?_modify, h]
theorem set_other {w : World} {b : Nat} {a : Addr} (h : b ≠ a.block) (v : Value) : (w.setCell a v).heap[b]? = w.heap[b]? := Below.heap_setCell _ _ _ _ h
theorem set_size (w : World) (a : Addr) (v : Value) : (w.setCell a v).heap.size = w.heap.size := by simp [World.setCell]
theorem alloc_new (w : World) (o : Obj) : (w.alloc o).heap[w.heap.size]? = some o := by
  show (w.heap.push o)[w.heap.size]? = some o
  simp
theorem alloc_new' {w : World} {o : Obj} {n : Nat} (h : n = w.heap.size) : (w.alloc o).heap[n]? = some o := by rw [h]; exact alloc_new _ _
theorem alloc_old {w : World} {b : Nat} (o : Obj) (h : b < w.heap.size) : (w.alloc o).heap[b]? = w.heap[b]? := Below.heap_alloc _ _ _ h
theorem alloc_size (w : World) (o : Obj) : (w.alloc o).heap.size = w.heap.size + 1 := by
  show (w.heap.push o).size = _
  simp

/-- w' is w with new blocks, and of what was there the blocks of L alone may have been written. -/
structure Wr (L : List Nat) (w w' : World) : Prop where
  os : w'.os = w.os
  tape : w'.tape = w.tape
  output : w'.output = w.output
  size : w.heap.size ≤ w'.heap.size
  block : ∀ k, k < w.heap.size → k ∉ L → w'.heap[k]? = w.heap[k]?

theorem Wr.refl (L : List Nat) (w : World) : Wr L w w := ⟨rfl, rfl, rfl, Nat.le_refl _, fun _ _ _ => rfl⟩
theorem Wr.trans {L M : List Nat} {a b c : World} (h : Wr L a b) (k : Wr M b c) (hs : ∀ x ∈ M, x < a.heap.size → x ∈ L) : Wr L a c :=
  ⟨k.os.trans h.os, k.tape.trans h.tape, k.output.trans h.output, Nat.le_trans h.size k.size,
   fun i hi hn => (k.block i (Nat.lt_of_lt_of_le hi h.size) (fun hm => hn (hs i hm hi))).trans (h.block i hi hn)⟩
theorem Wr.of_below {L : List Nat} {w w' : World} (h : Below w.heap.size w w') : Wr L w w' := ⟨h.os, h.tape, h.output, h.size, fun k hk _ => h.block k hk⟩
theorem Wr.below {L : List Nat} {w w' : World} {B : Nat} (h : Wr L w w') (hB : B ≤ w.heap.size) (hL : ∀ x ∈ L, B ≤ x) : Below B w w' :=
  ⟨h.os, h.tape, h.output, h.size, fun k hk => h.block k (by omega) (fun hm => by have := hL k hm; omega)⟩
theorem Wr.mono {L M : List Nat} {w w' : World} (h : Wr L w w') (hs : ∀ x ∈ L, x ∈ M) : Wr M w w' :=
  ⟨h.os, h.tape, h.output, h.size, fun k hk hn => h.block k hk (fun hm => hn (hs k hm))⟩
theorem Wr.set {L : List Nat} {a w : World} (h : Wr L a w) {p : Addr} (hp : p.block < a.heap.size → p.block ∈ L) (v : Value) : Wr L a (w.setCell p v) :=
  ⟨h.os, h.tape, h.output, by rw [set_size]; exact h.size, fun k hk hn => by
    have e : k ≠ p.block := by intro e; subst e; exact hn (hp hk)
    rw [set_other e]; exact h.block k hk hn⟩
theorem Wr.alloc {L : List Nat} {a w : World} (h : Wr L a w) (o : Obj) : Wr L a (w.alloc o) :=
  ⟨h.os, h.tape, h.output, by rw [alloc_size]; have := h.size; omega, fun k hk hn => by
    rw [alloc_old o (by have := h.size; omega)]; exact h.block k hk hn⟩
theorem Wr.drew {L : List Nat} {a w : World} (h : Wr L a w) : Wr L a w.drew := ⟨h.os, h.tape, h.output, h.size, h.block⟩
theorem Wr.drewN {L : List Nat} {a w : World} (h : Wr L a w) (n : Nat) : Wr L a (w.drewN n) := ⟨h.os, h.tape, h.output, h.size, h.block⟩
/-- A block that is not among those that may be written. -/
theorem Wr.keep {L : List Nat} {w w' : World} (h : Wr L w w') {k : Nat} {o : Obj} (hk : w.heap[k]? = some o) (hn : k ∉ L) : w'.heap[k]? = some o := by
  rw [h.block k (lt_of_heap hk) hn]; exact hk
theorem below_keep {w w' : World} (h : Below w.heap.size w w') {k : Nat} {o : Obj} (hk : w.heap[k]? = some o) : w'.heap[k]? = some o := by
  rw [h.block k (lt_of_heap hk)]; exact hk
theorem Wr.cell {L : List Nat} {w w' : World} (h : Wr L w w') {p : Addr} (hp : p.block < w.heap.size) (hn : p.block ∉ L) : w'.cell? p = w.cell? p :=
  World.cell?_of_block (w := w) (h.block p.block hp hn)
theorem Wr.frozen {L : List Nat} {w w' : World} (h : Wr L w w') {p : Addr} (hp : p.block < w.heap.size) (hn : p.block ∉ L) : w'.frozen? p = w.frozen? p :=
  World.frozen?_of_block (w := w) (h.block p.block hp hn)
end Go.Proofs.YtgnilcmhaobgeaaGreat

/- Opening slices among the arguments: for whatever program; no condition. -/
import Derived.ProofKit
import Derived.OpenShut
import Derived.Deep.Slices
namespace Go.Proofs.YtgnilcmhaobgeaaGreat
open Go.RowKit Go.Deep

/-- A slice that came in: nil, or a row of cells: its first 'len' cells are 'z'. -/
def IsRowOf {α : Type} (val : α → Value) (ok : α → Prop) (w : World) (a : Option Addr) (len cap : Nat) (z : Nat → α) : Prop :=
  (a = none ∧ len = 0 ∧ cap = 0) ∨
  ∃ x, a = some x ∧ len ≤ cap ∧ cap ≤ maxLen ∧ ∀ i, i < len → w.cell? (x.add i) = some (val (z i)) ∧ ok (z i)

theorem open_bools {H : Type} {enc : TypeId × Value → H} {P : Program} {W : World} {t e : TypeId} {a : Option Addr} {l c : Nat} {d : DataW H} {p : List MemPlace} (ht : P.underlying t = some (.slice e)) (he : P.underlying e = some .bool) (hc : P.cellsOf e = 1)
    (h : DataW.Trod enc P W 0 (fun _ => true) true t (.slice a l c) d p) : ∃ z : Nat → Bool, IsRowOf (fun x => .bool x) (fun _ => True) W a l c z := by
  obtain ⟨fuel, hf⟩ := h
  rcases open_slice1 ht hc hf with ⟨hcs, _⟩ | ⟨x, len, cap, m, n, V, D, Pl, hcs, _, hl, hm, hmm, _, hx⟩
  · simp [Value.cells] at hcs
    obtain ⟨rfl, rfl, rfl⟩ := hcs
    exact ⟨fun _ => false, .inl ⟨rfl, rfl, rfl⟩⟩
  · simp [Value.cells] at hcs
    obtain ⟨rfl, rfl, rfl⟩ := hcs
    have hmc : m = c := by simpa using hmm
    have hb : ∀ i, i < l → ∃ b, V i = .bool b := fun i hi => by
      obtain ⟨_, h2⟩ := hx i (by omega)
      obtain ⟨b, hb, _⟩ := DataW.trod_bool he h2
      exact ⟨b, by simpa using hb⟩
    refine ⟨fun i => match V i with | .bool b => b | _ => false, .inr ⟨x, rfl, hl, hm, fun i hi => ⟨?_, trivial⟩⟩⟩
    obtain ⟨b, hb⟩ := hb i hi
    rw [(hx i (by omega)).1]
    simp [hb]

theorem open_intsOf {H : Type} {enc : TypeId × Value → H} {P : Program} {W : World} {t e : TypeId} {k : IntKind} {a : Option Addr} {l c : Nat} {d : DataW H} {p : List MemPlace} (ht : P.underlying t = some (.slice e)) (he : P.underlying e = some (.int k)) (hc : P.cellsOf e = 1)
    (h : DataW.Trod enc P W 0 (fun _ => true) true t (.slice a l c) d p) : ∃ z : Nat → Int, IsRowOf (fun x => .int k x) (fun x => (Lit.int k x).wf = true) W a l c z := by
  obtain ⟨fuel, hf⟩ := h
  rcases open_slice1 ht hc hf with ⟨hcs, _⟩ | ⟨x, len, cap, m, n, V, D, Pl, hcs, _, hl, hm, hmm, _, hx⟩
  · simp [Value.cells] at hcs
    obtain ⟨rfl, rfl, rfl⟩ := hcs
    exact ⟨fun _ => 0, .inl ⟨rfl, rfl, rfl⟩⟩
  · simp [Value.cells] at hcs
    obtain ⟨rfl, rfl, rfl⟩ := hcs
    have hmc : m = c := by simpa using hmm
    have hb : ∀ i, i < l → ∃ b, V i = .int k b ∧ (Lit.int k b).wf = true := fun i hi => by
      obtain ⟨_, h2⟩ := hx i (by omega)
      obtain ⟨b, hb, _, hw⟩ := DataW.trod_int he h2
      exact ⟨b, by simpa using hb, hw⟩
    refine ⟨fun i => match V i with | .int _ b => b | _ => 0, .inr ⟨x, rfl, hl, hm, fun i hi => ?_⟩⟩
    obtain ⟨b, hb, hw⟩ := hb i hi
    rw [(hx i (by omega)).1]
    simp [hb, hw]
end Go.Proofs.YtgnilcmhaobgeaaGreat

/- Flatten: opening slices of slices among the arguments. -/
import Derived.Test.YtgnilcmhaobgeaaGreatFlaA
import Derived.ProofKit
import Derived.OpenShut
import Derived.Deep.Slices
namespace Go.Proofs.YtgnilcmhaobgeaaGreat
open Go.RowKit Go.Deep

theorem open_inS {α H : Type} [Inhabited α] {enc : TypeId × Value → H} {P : Program} {W : World} {t e : TypeId} {Pr : World → Value → α → Prop} (ht : P.underlying t = some (.slice e)) (hc : P.cellsOf e = 1)
    (hstep : ∀ n V D Pl, DataW.trod enc P W 0 (fun _ => true) true n e [V] = some (D, Pl) → ∃ x, Pr W V x) {fuel : Nat} {v : Value} {x : DataW H × List MemPlace} (h : DataW.trod enc P W 0 (fun _ => true) true fuel t [v] = some x) : ∃ M, InS Pr W v M := by
  rcases open_slice1 ht hc h with ⟨hcs, _⟩ | ⟨a, len, cap, m, n, V, D, Pl, hcs, _, hl, hm, hmm, _, hx⟩
  · simp at hcs
    subst hcs
    exact ⟨[], none, 0, rfl, Nat.zero_le _, fun h => absurd rfl h⟩
  · simp at hcs
    subst hcs
    have hmc : m = cap := by simpa using hmm
    obtain ⟨z, hz⟩ := choose_lt (α := α) (n := len) (p := fun i y => Pr W (V i) y) (fun i hi => hstep _ _ _ _ (hx i (by omega)).2)
    refine ⟨(List.range len).map z, some a, cap, by simp, by simp; omega, fun hM => ?_⟩
    have h0 : 0 < len := by
      rcases Nat.eq_zero_or_pos len with h0 | h0
      · subst h0; simp at hM
      · exact h0
    obtain ⟨b, off, spot⟩ := a
    have hspot : spot = none := by
      have h1 := (hx 0 (by omega)).1
      simpa [Addr.add] using World.cell?_spot h1
    subst hspot
    refine ⟨b, off, rfl, fun i y hy => ?_⟩
    have hi : i < len := by
      have := (List.getElem?_eq_some_iff.1 hy).1
      simpa using this
    have hzy : z i = y := by simpa [List.getElem?_map, List.getElem?_range hi] using hy
    have e : (⟨b, off, none⟩ : Addr).add i = ⟨b, off + i, none⟩ := by unfold Addr.add; split <;> simp_all
    exact ⟨V i, by rw [← e]; exact (hx i (by omega)).1, hzy ▸ hz i hi⟩

theorem open_in1 {H : Type} {enc : TypeId × Value → H} {W : World} {fuel : Nat} {v : Value} {x : DataW H × List MemPlace} (h : DataW.trod enc Tryz.prog W 0 (fun _ => true) true fuel 38 [v] = some x) : ∃ M, In1 W v M :=
  open_inS Tryz.underlying38 (by kernel_rfl) (fun n V D Pl h => by
    obtain ⟨b, hb, _, _⟩ := DataW.trod_int Tryz.underlying3 h
    exact ⟨b, show V = _ by simpa using hb⟩) h
theorem open_in2 {H : Type} {enc : TypeId × Value → H} {W : World} {fuel : Nat} {v : Value} {x : DataW H × List MemPlace} (h : DataW.trod enc Tryz.prog W 0 (fun _ => true) true fuel 36 [v] = some x) : ∃ M, In2 W v M :=
  open_inS Tryz.underlying36 (by kernel_rfl) (fun n V D Pl h => open_in1 h) h
theorem open_in3 {H : Type} {enc : TypeId × Value → H} {W : World} {fuel : Nat} {v : Value} {x : DataW H × List MemPlace} (h : DataW.trod enc Tryz.prog W 0 (fun _ => true) true fuel 42 [v] = some x) : ∃ M, In3 W v M :=
  open_inS Tryz.underlying42 (by kernel_rfl) (fun n V D Pl h => open_in2 h) h
end Go.Proofs.YtgnilcmhaobgeaaGreat

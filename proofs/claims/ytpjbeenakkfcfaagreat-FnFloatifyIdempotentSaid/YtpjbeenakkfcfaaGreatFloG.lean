/- Floatify: the recursion over a spine of whatever height. -/
import Derived.Test.YtpjbeenakkfcfaaGreatFloF
namespace Go.Proofs.YtpjbeenakkfcfaaGreat
open Go.RowKit Go.Deep

theorem trav_all (code nb lb : Nat → Nat) (val : Nat → Int) : ∀ j, Apart nb lb j → TravAt code nb lb val j := by
  intro j
  induction j with
  | zero => exact fun _ w b off c t ha hc hs _ hb => trav_zero w b off c t ha hc hs (hb 0 (Nat.le_refl _))
  | succ j ih =>
    intro hap
    have hap' : Apart nb lb j := ⟨fun i k hi hk => hap.nodes i k (by omega) (by omega), fun i k hi hk => hap.leaves i k (by omega) (by omega)⟩
    intro w b off c t ha hc hs hbn _
    by_cases h0 : code j = 0
    · exact trav_una (ih hap') hap h0 w b off c t ha hc hs hbn
    · by_cases h3 : code j ≤ 3
      · rcases (by omega : code j = 1 ∨ code j = 2 ∨ code j = 3) with h | h | h
        · exact trav_bin (ih hap') hap ⟨#[43]⟩ true _ _ (by rw [h]; rfl) (by decide +kernel) rfl rfl (Or.inl rfl) h0 h3 w b off c t ha hc hs hbn
        · exact trav_bin (ih hap') hap ⟨#[45]⟩ false true _ (by rw [h]; rfl) (by decide +kernel) (by decide +kernel) rfl (Or.inr (Or.inl ⟨rfl, rfl⟩)) h0 h3 w b off c t ha hc hs hbn
        · exact trav_bin (ih hap') hap ⟨#[42]⟩ false false true (by rw [h]; rfl) (by decide +kernel) (by decide +kernel) (by decide +kernel) (Or.inr (Or.inr ⟨rfl, rfl, rfl⟩)) h0 h3 w b off c t ha hc hs hbn
      · exact trav_stops j w b off c t ha hc hs (by omega)
end Go.Proofs.YtpjbeenakkfcfaaGreat

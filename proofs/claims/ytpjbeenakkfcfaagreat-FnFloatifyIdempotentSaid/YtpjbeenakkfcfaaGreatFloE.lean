/- Floatify: the recursion's step at a binary node that converts. -/
import Derived.Test.YtpjbeenakkfcfaaGreatFloD
namespace Go.Proofs.YtpjbeenakkfcfaaGreat
open Go.RowKit Go.Deep

theorem bin_done {code nb lb : Nat → Nat} {val : Nat → Int} {w w2 w3 : World} {j b off q : Nat} {c : Array Value} {t : TypeId} {o : Obj} {fb : Nat → Nat} (h0 : code j ≠ 0) (h3 : code j ≤ 3) (hap : Apart nb lb (j + 1))
    (ha : w.heap[b]? = some (.cells c t (0, 0))) (hbn : ∀ i, i < j + 1 → b ≠ nb i)
    (hw : Wr (nb j :: blocks nb j) (w.alloc o) w2) (hn : w2.heap[nb j]? = some (.cells (if j = 0 then (nd0 [.string (opName (code j)), nodeV code nb lb j, (.iface 53 (.pointer (some ⟨lb (j + 1), 0, none⟩)))]).setIfInBounds 12 (.iface 56 (.pointer (some ⟨fb 0, 0, none⟩))) else nd0 [.string (opName (code j)), nodeV code nb lb j, (.iface 53 (.pointer (some ⟨lb (j + 1), 0, none⟩)))]) 79 (0, 0)))
    (hd : Done code nb lb val w2 j fb) (hl : IntAt w2 (lb (j + 1)) (val (j + 1)))
    (hw3 : Wr [nb j] w2 w3) (hn3 : w3.heap[nb j]? = some (.cells ((if j = 0 then (nd0 [.string (opName (code j)), nodeV code nb lb j, (.iface 53 (.pointer (some ⟨lb (j + 1), 0, none⟩)))]).setIfInBounds 12 (.iface 56 (.pointer (some ⟨fb 0, 0, none⟩))) else nd0 [.string (opName (code j)), nodeV code nb lb j, (.iface 53 (.pointer (some ⟨lb (j + 1), 0, none⟩)))]).setIfInBounds 13 (.iface 56 (.pointer (some ⟨q, 0, none⟩)))) 79 (0, 0)))
    (hf : FloatAt w3 q (floatOfInt .f64 (val (j + 1)))) : TravPost code nb lb val w (j + 1) b off c t (.returned (.tuple #[])) w3 := by
  have hsub : ∀ x, x ∈ nb j :: blocks nb j → x ∈ blocks nb (j + 1) := fun x hx => by
    rcases List.mem_cons.1 hx with rfl | hx
    · exact blocks_mem (by omega)
    · obtain ⟨i, hi, rfl⟩ := mem_blocks hx
      exact blocks_mem (by omega)
  have hb : ∀ x, x ∈ nb j :: blocks nb j → b ≠ x := fun x hx e => by
    obtain ⟨i, hi, rfl⟩ := mem_blocks (hsub x hx)
    exact hbn i hi e
  have hleaf : ∀ i, i ≤ j + 1 → lb i ≠ nb j := fun i hi e => hap.leaves j i (by omega) hi e.symm
  refine ⟨rfl, fun i => if i = j + 1 then q else fb i, (((Wr.refl (b :: blocks nb (j + 1)) w).alloc o).trans hw (fun x hx _ => List.mem_cons_of_mem _ (hsub x hx))).trans hw3 (fun x hx _ => ?_), ?_, ?_⟩
  · simp at hx; subst hx
    exact List.mem_cons_of_mem _ (hsub _ (List.mem_cons_self ..))
  · rw [if_neg (by omega)]
    refine hw3.keep (hw.keep (by rw [alloc_old _ (lt_of_heap ha)]; exact ha) (fun hm => hb b hm rfl)) (fun hm => ?_)
    simp at hm
    exact hb (nb j) (List.mem_cons_self ..) hm
  · have hk : ∀ (k : Nat) (x : Obj), k ≠ nb j → w2.heap[k]? = some x → w3.heap[k]? = some x := fun k x hne hx => hw3.keep hx (by simpa using hne)
    refine ⟨fun i hi => ?_, fun i hi hl' => ?_, fun i hi hl' hc => ?_⟩
    · by_cases e : i = j
      · subst e
        refine Or.inr ⟨h0, ?_⟩
        rw [hn3]
        by_cases e0 : i = 0
        · subst e0
          simp [nd0, slotV, nodeV, cv_top h3]
        · simp [nd0, slotV, cv_top h3, e0]
      · have hne : nb i ≠ nb j := fun x => e (hap.nodes i j (by omega) (by omega) x)
        have hL := hd.level i (by omega)
        rw [cv_same h3, cv_same h3]
        have e1 : ¬ i + 1 = j + 1 := by omega
        have e2 : ¬ (0 : Nat) = j + 1 := by omega
        simp only [e1, e2, if_false]
        rcases hL with ⟨x, y⟩ | ⟨x, y⟩
        · exact Or.inl ⟨x, hk _ _ hne y⟩
        · exact Or.inr ⟨x, hk _ _ hne y⟩
    · by_cases e : i = j + 1
      · subst e
        exact hk _ _ (hleaf _ (by omega)) hl
      · exact hk _ _ (hleaf _ hi) (hd.leaf i (by omega) hl')
    · by_cases e : i = j + 1
      · subst e
        simpa using hf
      · have hF := hd.flo i (by omega) hl' (by rw [cv_same h3] at hc; exact hc)
        have hne : fb i ≠ nb j := fun x => by
          unfold FloatAt at hF
          rw [x, hn] at hF
          injection hF with hF
          injection hF with _ hT _
          exact absurd hT (by decide)
        simp only [e, if_false]
        exact hk _ _ hne hF
end Go.Proofs.YtpjbeenakkfcfaaGreat

/- Floatify: the recursion's step. -/
import Derived.Test.YtpjbeenakkfcfaaGreatFloB
namespace Go.Proofs.YtpjbeenakkfcfaaGreat
open Go.RowKit Go.Deep

theorem cv_big {code : Nat → Nat} {j i : Nat} (h : 3 < code j) (hi : i ≤ j) : cv code (j + 1) i = false := by
  simp only [cv]
  refine decide_eq_false fun hall => ?_
  have := hall j (by omega) hi
  omega
theorem cv_same {code : Nat → Nat} {j i : Nat} (h : code j ≤ 3) : cv code (j + 1) i = cv code j i := by
  simp only [cv]
  refine decide_eq_decide.2 ⟨fun hall k hk => hall k (by omega), fun hall k hk hik => ?_⟩
  by_cases e : k = j
  · subst e; exact h
  · exact hall k (by omega) hik
theorem cv_top {code : Nat → Nat} {j : Nat} (h : code j ≤ 3) : cv code (j + 1) j = true := by
  simp only [cv]
  refine decide_eq_true fun k hk hjk => ?_
  obtain rfl : k = j := by omega
  exact h
/-- a node that stops leaves all as it was -/
theorem Spine.stops {code nb lb : Nat → Nat} {val : Nat → Int} {w : World} {j : Nat} (hs : Spine code nb lb val w (j + 1)) (h : 3 < code j) : Done code nb lb val w (j + 1) (fun _ => 0) := by
  refine ⟨fun i hi => ?_, hs.leaf, fun i hi _ hc => ?_⟩
  · have h1 := hs.level i hi
    rw [cv_big h (by omega), cv_big h (by omega)]
    have e : (if i = 0 then slotV false 0 (lb 0) else nodeV code nb lb i) = nodeV code nb lb i := by
      by_cases e : i = 0
      · subst e; rfl
      · rw [if_neg e]
    rw [e]
    exact h1
  · rw [cv_big h (by omega)] at hc
    cases hc
theorem opName_big (c : Nat) (h : 3 < c) : ((opName c).toList == [43]) = false ∧ ((opName c).toList == [45]) = false ∧ ((opName c).toList == [42]) = false := by
  unfold opName
  split
  · omega
  · omega
  · omega
  · decide +kernel
  · decide +kernel
  · decide +kernel

set_option maxRecDepth 100000 in
set_option maxHeartbeats 1000000 in
theorem trav_stops {code nb lb : Nat → Nat} {val : Nat → Int} (j : Nat) (w : World) (b off : Nat) (c : Array Value) (t : TypeId) (ha : w.heap[b]? = some (.cells c t (0, 0))) (hc : c[off]? = some (nodeV code nb lb (j + 1)))
    (hs : Spine code nb lb val w (j + 1)) (h : 3 < code j) :
    Calls Tryz.prog 16 #[.pointer (some ⟨b, off, none⟩), .agg nat0] w (TravPost code nb lb val w (j + 1) b off c t) := by
  have hne : code j ≠ 0 := by omega
  have hn : nodeV code nb lb (j + 1) = (.iface 50 (.pointer (some ⟨nb j, 0, none⟩))) := by simp [nodeV, hne]
  have hlv := (hs.level j (by omega)).resolve_left (fun x => hne x.1)
  have c0 : w.cell? ⟨b, off, none⟩ = some (.iface 50 (.pointer (some ⟨nb j, 0, none⟩))) := by rw [cell_of_block ha, hc, hn]
  have c1 : w.cell? ⟨nb j, 11, none⟩ = some (.string (opName (code j))) := by rw [cell_of_block hlv.2]; rfl
  have l0 : b < w.heap.size := lt_of_heap ha
  have l1 : nb j < w.heap.size := lt_of_heap hlv.2
  have tBin := ta_hit Tryz.underlying50 41
  have oBin := ta_one Tryz.underlying50 41
  have tInt := ta_miss Tryz.underlying53 zInt (show 50 ≠ 53 by decide) 41
  have tUna := ta_miss Tryz.underlying74 zUna (show 50 ≠ 74 by decide) 41
  obtain ⟨o1, o2, o3⟩ := opName_big (code j) h
  have HA := Lib.hid ha
  have HS := Lib.hid hs
  have HJ := Lib.hid h
  generalize opName (code j) = op at c1 o1 o2 o3
  clear ha hc hs h hne hn hlv
  go_enter Tryz.func16, Tryz.ntmps16
  go_wp2_with fail
  go_end0
  refine ⟨rfl, fun _ => 0, (Wr.refl _ w).alloc _, ?_, ?_⟩
  · rw [if_neg (by omega), alloc_old _ (lt_of_heap HA.out)]; exact HA.out
  · refine Spine.stops ⟨fun i hi => ?_, fun i hi hl => ?_⟩ HJ.out
    · rcases HS.out.level i hi with ⟨x, y⟩ | ⟨x, y⟩
      · exact Or.inl ⟨x, by rw [alloc_old _ (lt_of_heap y)]; exact y⟩
      · exact Or.inr ⟨x, by rw [alloc_old _ (lt_of_heap y)]; exact y⟩
    · have y := HS.out.leaf i hi hl
      show _ = _
      rw [alloc_old _ (lt_of_heap y)]; exact y
end Go.Proofs.YtpjbeenakkfcfaaGreat

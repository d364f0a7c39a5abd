/- Floatify: the recursion's step at a unary node. -/
import Derived.Test.YtpjbeenakkfcfaaGreatFloC
namespace Go.Proofs.YtpjbeenakkfcfaaGreat
open Go.RowKit Go.Deep

/-- the contract of the walk over the levels below j, from whatever slot -/
def TravAt (code nb lb : Nat → Nat) (val : Nat → Int) (j : Nat) : Prop :=
  ∀ (w : World) (b off : Nat) (c : Array Value) (t : TypeId), w.heap[b]? = some (.cells c t (0, 0)) → c[off]? = some (nodeV code nb lb j) → Spine code nb lb val w j → (∀ i, i < j → b ≠ nb i) → (∀ i, i ≤ j → b ≠ lb i) →
    Calls Tryz.prog 16 #[.pointer (some ⟨b, off, none⟩), .agg nat0] w (TravPost code nb lb val w j b off c t)

theorem mem_blocks {nb : Nat → Nat} {j x : Nat} (h : x ∈ blocks nb j) : ∃ i, i < j ∧ x = nb i := by
  simp only [blocks, List.mem_map, List.mem_range] at h
  obtain ⟨i, hi, e⟩ := h
  exact ⟨i, hi, e.symm⟩
theorem blocks_mem {nb : Nat → Nat} {j i : Nat} (h : i < j) : nb i ∈ blocks nb j := by
  simp only [blocks, List.mem_map, List.mem_range]
  exact ⟨i, h, rfl⟩
theorem Spine.keep {code nb lb : Nat → Nat} {val : Nat → Int} {w w' : World} {j : Nat} (h : Spine code nb lb val w j) (hk : ∀ (k : Nat) (o : Obj), w.heap[k]? = some o → w'.heap[k]? = some o) : Spine code nb lb val w' j := by
  refine ⟨fun i hi => ?_, fun i hi hl => hk _ _ (h.leaf i hi hl)⟩
  rcases h.level i hi with ⟨x, y⟩ | ⟨x, y⟩
  · exact Or.inl ⟨x, hk _ _ y⟩
  · exact Or.inr ⟨x, hk _ _ y⟩
theorem Spine.less {code nb lb : Nat → Nat} {val : Nat → Int} {w : World} {j : Nat} (h : Spine code nb lb val w (j + 1)) : Spine code nb lb val w j :=
  ⟨fun i hi => h.level i (by omega), fun i hi hl => h.leaf i (by omega) hl⟩

/-- what the unary node's own call left is what the step owes -/
theorem una_done {code nb lb : Nat → Nat} {val : Nat → Int} {w w2 : World} {j b off : Nat} {c : Array Value} {t : TypeId} {o : Obj} {fb : Nat → Nat} (h0 : code j = 0)
    (ha : w.heap[b]? = some (.cells c t (0, 0))) (hbn : ∀ i, i < j + 1 → b ≠ nb i)
    (hw : Wr (nb j :: blocks nb j) (w.alloc o) w2) (hn : w2.heap[nb j]? = some (.cells (if j = 0 then (nd0 [.string ⟨#[45]⟩, nodeV code nb lb j]).setIfInBounds 12 (.iface 56 (.pointer (some ⟨fb 0, 0, none⟩))) else nd0 [.string ⟨#[45]⟩, nodeV code nb lb j]) 76 (0, 0)))
    (hd : Done code nb lb val w2 j fb) : TravPost code nb lb val w (j + 1) b off c t (.returned (.tuple #[])) w2 := by
  have h3 : code j ≤ 3 := by omega
  refine ⟨rfl, fb, ((Wr.refl (b :: blocks nb (j + 1)) w).alloc o).trans hw (fun x hx _ => ?_), ?_, ?_⟩
  · rcases List.mem_cons.1 hx with rfl | hx
    · exact List.mem_cons_of_mem _ (blocks_mem (by omega))
    · obtain ⟨i, hi, rfl⟩ := mem_blocks hx
      exact List.mem_cons_of_mem _ (blocks_mem (by omega))
  · rw [if_neg (by omega)]
    refine hw.keep (by rw [alloc_old _ (lt_of_heap ha)]; exact ha) (fun hm => ?_)
    rcases List.mem_cons.1 hm with e | hm
    · exact hbn j (by omega) e
    · obtain ⟨i, hi, e⟩ := mem_blocks hm
      exact hbn i (by omega) e
  · refine ⟨fun i hi => ?_, fun i hi hl => ?_, fun i hi hl hc => ?_⟩
    · by_cases e : i = j
      · subst e
        refine Or.inl ⟨h0, ?_⟩
        rw [hn]
        by_cases e0 : i = 0
        · subst e0
          rw [if_pos rfl, if_pos rfl, cv_top h3]
          simp [nd0, slotV, nodeV]
        · rw [if_neg e0, if_neg e0]
      · have := hd.level i (by omega)
        rw [cv_same h3, cv_same h3]
        exact this
    · by_cases e : i = j + 1
      · subst e
        rcases hl with hl | hl
        · omega
        · exact absurd h0 hl
      · exact hd.leaf i (by omega) hl
    · by_cases e : i = j + 1
      · subst e
        rcases hl with hl | hl
        · omega
        · exact absurd h0 hl
      · exact hd.flo i (by omega) hl (by rw [cv_same h3] at hc; exact hc)

set_option maxRecDepth 100000 in
set_option maxHeartbeats 1000000 in
theorem trav_una {code nb lb : Nat → Nat} {val : Nat → Int} {j : Nat} (ih : TravAt code nb lb val j) (hap : Apart nb lb (j + 1)) (h0 : code j = 0) (w : World) (b off : Nat) (c : Array Value) (t : TypeId)
    (ha : w.heap[b]? = some (.cells c t (0, 0))) (hc : c[off]? = some (nodeV code nb lb (j + 1))) (hs : Spine code nb lb val w (j + 1)) (hbn : ∀ i, i < j + 1 → b ≠ nb i) :
    Calls Tryz.prog 16 #[.pointer (some ⟨b, off, none⟩), .agg nat0] w (TravPost code nb lb val w (j + 1) b off c t) := by
  have hn : nodeV code nb lb (j + 1) = (.iface 74 (.pointer (some ⟨nb j, 0, none⟩))) := by simp [nodeV, h0]
  have hlv := (hs.level j (by omega)).resolve_right (fun x => x.1 h0)
  have c0 : w.cell? ⟨b, off, none⟩ = some (.iface 74 (.pointer (some ⟨nb j, 0, none⟩))) := by rw [cell_of_block ha, hc, hn]
  have l0 : b < w.heap.size := lt_of_heap ha
  have l1 : nb j < w.heap.size := lt_of_heap hlv.2
  have tUna := ta_hit Tryz.underlying74 41
  have oUna := ta_one Tryz.underlying74 41
  have tInt := ta_miss Tryz.underlying53 zInt (show 74 ≠ 53 by decide) 41
  have HA := Lib.hid ha
  have HL := Lib.hid hlv.2
  have HC := Lib.hid (ih (w.alloc (.cells nat0 67)).drew (nb j) 12 (nd0 [.string ⟨#[45]⟩, nodeV code nb lb j]) 76 (by show (w.alloc _).heap[nb j]? = _; rw [alloc_old _ l1]; exact hlv.2) rfl
    ((hs.less).keep fun k o hk => by show (w.alloc _).heap[k]? = _; rw [alloc_old _ (lt_of_heap hk)]; exact hk) (fun i hi e => by have := hap.nodes j i (by omega) (by omega) e; omega) (fun i hi => hap.leaves j i (by omega) (by omega)))
  have H0 := Lib.hid h0
  have HB := Lib.hid hbn
  clear ha hc hs hn hlv h0 hbn ih hap
  go_enter Tryz.func16, Tryz.ntmps16
  go_wp2_with fail
  go_region_with (go_at_call 16; refine HC.out.mono ?_; rintro e w2 hp; obtain ⟨rfl, fb, hw, hn, hd⟩ := hp)
  all_goals
    have hp := Lib.hid (una_done (off := off) H0.out HA.out HB.out (show Wr (nb j :: blocks nb j) (w.alloc (.cells nat0 67)) w2 from ⟨hw.os, hw.tape, hw.output, hw.size, hw.block⟩) hn hd)
    clear hw hn hd
    go_end0
    exact hp.out
end Go.Proofs.YtpjbeenakkfcfaaGreat

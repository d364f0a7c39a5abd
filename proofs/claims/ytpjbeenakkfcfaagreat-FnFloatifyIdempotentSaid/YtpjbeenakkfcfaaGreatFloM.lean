/- Floatify: what the first run leaves; what hangs in each slot. Plain laws. -/
import Derived.Test.YtpjbeenakkfcfaaGreatFloL
namespace Go.Proofs.YtpjbeenakkfcfaaGreat
open Go.RowKit Go.Deep

/-- what buildSpine hands back -/
structure Tree (code nb lb : Nat → Nat) (val : Nat → Int) (w0 w : World) (lv un bi n : Nat) : Prop where
  below : Below w0.heap.size w0 w
  lvs : w.rowIs lv 53 (n + 1) (lvF code lb n)
  uns : w.rowIs un 74 n (unF code nb n)
  bis : w.rowIs bi 50 n (biF code nb n)
  spine : Spine code nb lb val w n
  apart : Apart nb lb n
  lbs : ∀ i, i ≤ n → lb i < w.heap.size
  nnb : ∀ i, i < n → w0.heap.size ≤ nb i
def BuildPost (code : Nat → Nat) (val : Nat → Int) (n : Nat) (w : World) (e : Ending) (w' : World) : Prop :=
  ∃ (nb lb : Nat → Nat) (lv un bi : Nat) (T : TypeId) (p : Nat), e = .returned (.agg #[.iface T (.pointer (some ⟨p, 0, none⟩)), (.slice (some ⟨lv, 0, none⟩) (n + 1) (n + 1)), (.slice (some ⟨un, 0, none⟩) n n), (.slice (some ⟨bi, 0, none⟩) n n)]) ∧ nodeV code nb lb n = .iface T (.pointer (some ⟨p, 0, none⟩)) ∧ Tree code nb lb val w w' lv un bi n

/-- what hangs in slot j behind the first run -/
def slotVal (code lb fb : Nat → Nat) (n : Nat) : Nat → Value
  | 0 => slotV (cv code n 0) (fb 0) (lb 0)
  | j + 1 => if code j = 0 then .nilIface else slotV (cv code n j) (fb (j + 1)) (lb (j + 1))

structure Fin (code nb lb fb : Nat → Nat) (val : Nat → Int) (w0 w : World) (sb lv un bi vb n m : Nat) (T : TypeId) (p : Nat) (ao : Option Addr) (z : Nat → Int) : Prop where
  below : Below w0.heap.size w0 w
  nsb : w0.heap.size ≤ sb
  root : w.heap[sb]? = some (.cells #[.iface T (.pointer (some ⟨p, 0, none⟩)), (.slice (some ⟨lv, 0, none⟩) (n + 1) (n + 1)), (.slice (some ⟨un, 0, none⟩) n n), (.slice (some ⟨bi, 0, none⟩) n n)] 46 (0, 0))
  rootV : .iface T (.pointer (some ⟨p, 0, none⟩)) = if n = 0 then (.iface 56 (.pointer (some ⟨fb 0, 0, none⟩))) else nodeV code nb lb n
  lvs : w.rowIs lv 53 (n + 1) (lvF code lb n)
  uns : w.rowIs un 74 n (unF code nb n)
  bis : w.rowIs bi 50 n (biF code nb n)
  done : Done code nb lb val w n fb
  vals : w.rowIs vb 3 m (fun i => .int .i64 (val i))
  codes : Own w ao n 5 (fun i => .int .u8 (z i))

theorem Own.keeps {w w' : World} {ao : Option Addr} {n : Nat} {T : TypeId} {f : Nat → Value} (h : Own w ao n T f) (hk : Keeps w w') : Own w' ao n T f := by
  rcases h with h | ⟨b, h1, h2⟩
  · exact Or.inl h
  · exact Or.inr ⟨b, h1, hk.row h2⟩
theorem Fin.move {code nb lb fb : Nat → Nat} {val : Nat → Int} {w0 w w' : World} {sb lv un bi vb n m : Nat} {T : TypeId} {p : Nat} {ao : Option Addr} {z : Nat → Int} (h : Fin code nb lb fb val w0 w sb lv un bi vb n m T p ao z) (hb : Below w.heap.size w w') :
    Fin code nb lb fb val w0 w' sb lv un bi vb n m T p ao z :=
  have hk := Keeps.below hb
  ⟨h.below.trans (hb.mono h.below.size), h.nsb, hk _ _ h.root, h.rootV, hk.row h.lvs, hk.row h.uns, hk.row h.bis, h.done.below hb, hk.row h.vals, h.codes.keeps hk⟩

theorem Fin.of {code nb lb : Nat → Nat} {val : Nat → Int} {w0 w2 w3 w5 : World} {lv un bi vb n m : Nat} {T : TypeId} {p : Nat} {ao : Option Addr} {z : Nat → Int} {e : Ending}
    (h0 : Below w0.heap.size w0 w2) (ht : Tree code nb lb val w2 w3 lv un bi n) (hr : nodeV code nb lb n = .iface T (.pointer (some ⟨p, 0, none⟩))) (hv : w2.rowIs vb 3 m (fun i => .int .i64 (val i))) (hc : Own w2 ao n 5 (fun i => .int .u8 (z i)))
    (hp : TravPost code nb lb val (w3.alloc (.cells #[.iface T (.pointer (some ⟨p, 0, none⟩)), (.slice (some ⟨lv, 0, none⟩) (n + 1) (n + 1)), (.slice (some ⟨un, 0, none⟩) n n), (.slice (some ⟨bi, 0, none⟩) n n)] 46)) n w3.heap.size 0 #[.iface T (.pointer (some ⟨p, 0, none⟩)), (.slice (some ⟨lv, 0, none⟩) (n + 1) (n + 1)), (.slice (some ⟨un, 0, none⟩) n n), (.slice (some ⟨bi, 0, none⟩) n n)] 46 e w5) :
    e = .returned (.tuple #[]) ∧ ∃ fb T' p', Fin code nb lb fb val w0 w5 w3.heap.size lv un bi vb n m T' p' ao z := by
  obtain ⟨rfl, fb, hw, hroot, hd⟩ := hp
  refine ⟨rfl, fb, ?_⟩
  have hs2 : w2.heap.size ≤ w3.heap.size := ht.below.size
  have hs0 := h0.size
  have hb4 : Below w0.heap.size w0 (w3.alloc (.cells #[.iface T (.pointer (some ⟨p, 0, none⟩)), (.slice (some ⟨lv, 0, none⟩) (n + 1) (n + 1)), (.slice (some ⟨un, 0, none⟩) n n), (.slice (some ⟨bi, 0, none⟩) n n)] 46)) := (h0.trans (ht.below.mono hs0)).alloc (by omega) _
  have hb5 := hb4.trans (hw.below (B := w0.heap.size) hb4.size (fun x hx => by
    rcases List.mem_cons.1 hx with rfl | hx
    · omega
    · obtain ⟨i, hi, rfl⟩ := mem_blocks hx
      have := ht.nnb i hi
      omega))
  have hkeep : ∀ (b : Nat) (c : Array Value) (U : TypeId) (f : Nat × Nat), w3.heap[b]? = some (.cells c U f) → U ≠ 76 → U ≠ 79 → U ≠ 73 → w5.heap[b]? = some (.cells c U f) := fun b c U f hb h1 h2 h3 => by
    refine hw.keep (by rw [alloc_old _ (lt_of_heap hb)]; exact hb) (fun hm => ?_)
    rcases List.mem_cons.1 hm with e | hm
    · have := lt_of_heap hb; omega
    · obtain ⟨i, hi, e⟩ := mem_blocks hm
      exact (ht.spine.away hb h1 h2 h3).1 i hi e.symm
  have hrow : ∀ (b k : Nat) (U : TypeId) (f : Nat → Value), w3.rowIs b U k f → U ≠ 76 → U ≠ 79 → U ≠ 73 → w5.rowIs b U k f := fun b k U f hr h1 h2 h3 => by
    obtain ⟨c, hc, hx⟩ := hr
    exact ⟨c, hkeep b c U (0, 0) hc h1 h2 h3, hx⟩
  have k23 := Keeps.below ht.below
  have hcd : Own w5 ao n 5 (fun i => .int .u8 (z i)) := by
    rcases hc with hc | ⟨b, h1, h2⟩
    · exact Or.inl hc
    · exact Or.inr ⟨b, h1, hrow _ _ _ _ (k23.row h2) (by decide) (by decide) (by decide)⟩
  by_cases h : n = 0
  · subst h
    rw [if_pos rfl] at hroot
    exact ⟨56, fb 0, hb5, by omega, by simpa using hroot, by simp, hrow _ _ _ _ ht.lvs (by decide) (by decide) (by decide), hrow _ _ _ _ ht.uns (by decide) (by decide) (by decide), hrow _ _ _ _ ht.bis (by decide) (by decide) (by decide), hd, hrow _ _ _ _ (k23.row hv) (by decide) (by decide) (by decide), hcd⟩
  · rw [if_neg h] at hroot
    exact ⟨T, p, hb5, by omega, hroot, by rw [if_neg h]; exact hr.symm, hrow _ _ _ _ ht.lvs (by decide) (by decide) (by decide), hrow _ _ _ _ ht.uns (by decide) (by decide) (by decide), hrow _ _ _ _ ht.bis (by decide) (by decide) (by decide), hd, hrow _ _ _ _ (k23.row hv) (by decide) (by decide) (by decide), hcd⟩

theorem Fin.slot {code nb lb fb : Nat → Nat} {val : Nat → Int} {w0 w : World} {sb lv un bi vb n m : Nat} {T : TypeId} {p : Nat} {ao : Option Addr} {z : Nat → Int} (h : Fin code nb lb fb val w0 w sb lv un bi vb n m T p ao z) (hn : n ≤ 4096) (j : Nat) (hj : j ≤ n) :
    Calls Tryz.prog 11 #[.agg #[.iface T (.pointer (some ⟨p, 0, none⟩)), (.slice (some ⟨lv, 0, none⟩) (n + 1) (n + 1)), (.slice (some ⟨un, 0, none⟩) n n), (.slice (some ⟨bi, 0, none⟩) n n)], .int .i64 j] w fun e w' => e = .returned (slotVal code lb fb n j) ∧ Below w.heap.size w w' := by
  cases j with
  | zero =>
    by_cases h0 : n = 0
    · have hr := h.rootV
      rw [if_pos h0] at hr
      have hv : slotVal code lb fb n 0 = .iface T (.pointer (some ⟨p, 0, none⟩)) := by
        rw [hr]
        have : cv code n 0 = true := by
          simp only [cv]
          exact decide_eq_true fun k hk => by omega
        simp [slotVal, this, slotV]
      rw [hv]
      subst h0
      exact slot_root _ _ _ bi w
    · have hl := h.done.level 0 (by omega)
      rw [if_pos rfl] at hl
      have cu := h.uns.cell (i := 0) (by omega)
      have cb := h.bis.cell (i := 0) (by omega)
      have hs : slotVal code lb fb n 0 = slotV (cv code n 0) (fb 0) (lb 0) := rfl
      rw [hs]
      rcases hl with ⟨x, y⟩ | ⟨x, y⟩
      · have e : unF code nb n 0 = ptr (nb 0) := if_pos ⟨by omega, x⟩
        rw [e] at cu
        exact slot_una _ _ _ un bi n (nb 0) (by omega) hn w cu (by rw [cell_of_block y]; rfl)
      · have e : unF code nb n 0 = .pointer none := if_neg (fun q => x q.2)
        have e2 : biF code nb n 0 = ptr (nb 0) := if_pos ⟨by omega, x⟩
        rw [e] at cu
        rw [e2] at cb
        exact slot_bin _ _ _ un bi n (nb 0) (by omega) hn w cu cb (by rw [cell_of_block y]; rfl)
  | succ j =>
    have hl := h.done.level j (by omega)
    have cb := h.bis.cell (i := j) (by omega)
    rcases hl with ⟨x, y⟩ | ⟨x, y⟩
    · have e2 : biF code nb n j = .pointer none := if_neg (fun q => q.2 x)
      rw [e2] at cb
      have hs : slotVal code lb fb n (j + 1) = .nilIface := if_pos x
      rw [hs]
      exact slot_none _ _ _ bi n j (by omega) hn w cb
    · have e2 : biF code nb n j = ptr (nb j) := if_pos ⟨by omega, x⟩
      rw [e2] at cb
      have hs : slotVal code lb fb n (j + 1) = slotV (cv code n j) (fb (j + 1)) (lb (j + 1)) := if_neg x
      rw [hs]
      exact slot_right _ _ _ _ bi n j (nb j) (by omega) hn w cb (by rw [cell_of_block y]; rfl)

/-- is slot j's leaf converted? -/
def conv (code : Nat → Nat) (n j : Nat) : Bool := cv code n (j - 1)
theorem Fin.right {code nb lb fb : Nat → Nat} {val : Nat → Int} {w0 w : World} {sb lv un bi vb n m : Nat} {T : TypeId} {p : Nat} {ao : Option Addr} {z : Nat → Int} (h : Fin code nb lb fb val w0 w sb lv un bi vb n m T p ao z) (j : Nat) (hj : j ≤ n) (hh : HasLeaf code j) :
    Calls Tryz.prog 10 #[slotVal code lb fb n j, ptr (lb j), .int .i64 (val j), .bool (conv code n j)] w fun e w' => e = .returned (.bool true) ∧ Below w.heap.size w w' := by
  have hs : slotVal code lb fb n j = slotV (conv code n j) (fb j) (lb j) := by
    cases j with
    | zero => rfl
    | succ j =>
      rcases hh with hh | hh
      · omega
      · exact if_neg hh
  rw [hs]
  cases hc : conv code n j with
  | true => exact right_yes (fb j) (lb j) (val j) w (h.done.flo j hj hh hc)
  | false => exact right_no (lb j) (val j) w (h.done.leaf j hj hh)
end Go.Proofs.YtpjbeenakkfcfaaGreat

/- Floatify: the size tests; the first run as one contract. -/
import Derived.Test.YtpjbeenakkfcfaaGreatFloO
namespace Go.Proofs.YtpjbeenakkfcfaaGreat
open Go.RowKit Go.Deep

/-- some bool, the world as it was -/
def SomeBool (w : World) (e : Ending) (w' : World) : Prop := ∃ b : Bool, e = .returned (.bool b) ∧ w = w'
def Yes (w : World) (e : Ending) (w' : World) : Prop := e = .returned (.bool true) ∧ Below w.heap.size w w'

set_option maxRecDepth 100000 in
set_option maxHeartbeats 1000000 in
theorem bytesT (a b : Option Addr) (l c m d : Nat) (w : World) (h1 : l ≤ 4096) (h2 : m ≤ 4097) :
    Calls Tryz.prog 5 #[.slice a l c, .slice b m d] w fun e w' => e = .returned (.bool true) ∧ w = w' := by
  go_enter Tryz.func5, Tryz.ntmps5
  go_wp2_with fail
  go_ret
  exact ⟨rfl, rfl⟩
set_option maxRecDepth 100000 in
set_option maxHeartbeats 1000000 in
theorem bytesT_any (a b : Option Addr) (l c m d : Nat) (w : World) (h1 : l ≤ maxLen) (h2 : m ≤ maxLen) :
    Calls Tryz.prog 5 #[.slice a l c, .slice b m d] w (SomeBool w) := by
  unfold maxLen at h1 h2
  go_enter Tryz.func5, Tryz.ntmps5
  go_wp2_with fail
  all_goals (go_ret; exact ⟨_, rfl, rfl⟩)
set_option maxRecDepth 100000 in
set_option maxHeartbeats 1000000 in
theorem bytesI (a b : Option Addr) (l c m d : Nat) (w : World) (h1 : l ≤ 4096) (h2 : m ≤ 4097) :
    Calls Tryz.prog 12 #[.slice a l c, .slice b m d] w fun e w' => e = .returned (.bool true) ∧ w = w' := by
  go_enter Tryz.func12, Tryz.ntmps12
  go_wp2_with fail
  go_ret
  exact ⟨rfl, rfl⟩
set_option maxRecDepth 100000 in
set_option maxHeartbeats 1000000 in
theorem bytesI_any (a b : Option Addr) (l c m d : Nat) (w : World) (h1 : l ≤ maxLen) (h2 : m ≤ maxLen) :
    Calls Tryz.prog 12 #[.slice a l c, .slice b m d] w (SomeBool w) := by
  unfold maxLen at h1 h2
  go_enter Tryz.func12, Tryz.ntmps12
  go_wp2_with fail
  all_goals (go_ret; exact ⟨_, rfl, rfl⟩)

theorem IsRowOf.below {α : Type} {val : α → Value} {ok : α → Prop} {w w' : World} {a : Option Addr} {l c : Nat} {z : Nat → α} (h : IsRowOf val ok w a l c z) (hb : Below w.heap.size w w') : IsRowOf val ok w' a l c z := by
  rcases h with h | ⟨x, h1, h2, h3, h4⟩
  · exact Or.inl h
  · exact Or.inr ⟨x, h1, h2, h3, fun i hi => ⟨by rw [hb.cell (p := x.add i) (lt_of_cell (h4 i hi).1)]; exact (h4 i hi).1, (h4 i hi).2⟩⟩
theorem IsRowOf.u8 {w : World} {a : Option Addr} {l c : Nat} {z : Nat → Int} (h : IsRowOf (fun x => .int .u8 x) (fun x => (Lit.int .u8 x).wf = true) w a l c z) : ∀ i, i < l → 0 ≤ z i ∧ z i ≤ 255 := by
  intro i hi
  rcases h with ⟨_, h, _⟩ | ⟨x, h1, h2, h3, h4⟩
  · omega
  · exact bounds_u8 (h4 i hi).2

abbrev codeOf (z : Nat → Int) : Nat → Nat := fun i => (z i % 7).toNat

theorem floatify_first {z : Nat → Int} {nb lb : Nat → Nat} {val : Nat → Int} {w0 w2 w3 : World} {lv un bi vb n m : Nat} {T : TypeId} {p : Nat} {ao : Option Addr}
    (h0 : Below w0.heap.size w0 w2) (ht : Tree (codeOf z) nb lb val w2 w3 lv un bi n) (hr : nodeV (codeOf z) nb lb n = .iface T (.pointer (some ⟨p, 0, none⟩))) (hv : w2.rowIs vb 3 m (fun i => .int .i64 (val i))) (hc : Own w2 ao n 5 (fun i => .int .u8 (z i))) :
    Calls Tryz.prog 9 #[.pointer (some ⟨w3.heap.size, 0, none⟩)] (w3.alloc (.cells #[.iface T (.pointer (some ⟨p, 0, none⟩)), (.slice (some ⟨lv, 0, none⟩) (n + 1) (n + 1)), (.slice (some ⟨un, 0, none⟩) n n), (.slice (some ⟨bi, 0, none⟩) n n)] 46))
      fun e w5 => e = .returned (.tuple #[]) ∧ ∃ fb T' p', Fin (codeOf z) nb lb fb val w0 w5 w3.heap.size lv un bi vb n m T' p' ao z := by
  refine floatify_of ((trav_all (codeOf z) nb lb val n ht.apart _ w3.heap.size 0 _ 46 (alloc_new _ _) (by rw [hr]; rfl) (ht.spine.keep fun k o hk => by rw [alloc_old _ (lt_of_heap hk)]; exact hk) (fun i hi e => by have := ht.spine.nb_lt hi; omega) (fun i hi e => by have := ht.lbs i hi; omega)).mono ?_)
  intro e w5 hp
  obtain ⟨he, hf⟩ := Fin.of h0 ht hr hv hc hp
  exact ⟨he, he, hf⟩

theorem cv_and {z : Nat → Int} {n k : Nat} (hk : k < n) (hz : 0 ≤ z k) : cv (codeOf z) n k = (cv (codeOf z) n (k + 1) && decide (z k % 7 ≤ 3)) := by
  simp only [cv]
  rw [← Bool.decide_and]
  refine decide_eq_decide.2 ⟨fun h => ⟨fun i hi hki => h i hi (by omega), ?_⟩, fun h i hi hki => ?_⟩
  · have := h k hk (Nat.le_refl _)
    simp only [codeOf] at this
    omega
  · by_cases e : i = k
    · subst e
      have := h.2
      simp only [codeOf]
      omega
    · exact h.1 i hi (by omega)
theorem cv_end (code : Nat → Nat) (n : Nat) : cv code n n = true := decide_eq_true fun k hk hnk => by omega
end Go.Proofs.YtpjbeenakkfcfaaGreat

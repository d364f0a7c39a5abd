/- FnFloatifyIdempotent: the three rows in which the first run is written down. Plain laws. -/
import Derived.Test.YtpjbeenakkfcfaaGreatFloP
namespace Go.Proofs.YtpjbeenakkfcfaaGreat
open Go.RowKit Go.Deep

/-- slot i: 0: no leaf; 1: a float node; 2: the integer node -/
def kindOf (code : Nat → Nat) (n i : Nat) : Nat := if i = 0 ∨ code (i - 1) ≠ 0 then (if cv code n (i - 1) then 1 else 2) else 0
def flF (code fb : Nat → Nat) (n i : Nat) : Value := if kindOf code n i = 1 then ptr (fb i) else .pointer none
def inF (code lb : Nat → Nat) (n i : Nat) : Value := if kindOf code n i = 2 then ptr (lb i) else .pointer none
def fvF (code : Nat → Nat) (val : Nat → Int) (n i : Nat) : Value := if kindOf code n i = 1 then .float .f64 (floatOfInt .f64 (val i)) else .float .f64 0
structure Rows3 (code lb fb : Nat → Nat) (val : Nat → Int) (wr : World) (B n k : Nat) : Prop where
  fl : wr.rowIs B 56 (n + 1) (fun i => if i < k then flF code fb n i else .pointer none)
  il : wr.rowIs (B + 1) 53 (n + 1) (fun i => if i < k then inF code lb n i else .pointer none)
  gl : wr.rowIs (B + 1 + 1) 27 (n + 1) (fun i => if i < k then fvF code val n i else .float .f64 0)

theorem kind_cases (code lb fb : Nat → Nat) (n k : Nat) :
    (kindOf code n k = 0 ∧ slotVal code lb fb n k = .nilIface) ∨ (kindOf code n k = 1 ∧ HasLeaf code k ∧ cv code n (k - 1) = true ∧ slotVal code lb fb n k = (.iface 56 (.pointer (some ⟨fb k, 0, none⟩)))) ∨ (kindOf code n k = 2 ∧ slotVal code lb fb n k = (.iface 53 (.pointer (some ⟨lb k, 0, none⟩)))) := by
  have hs : ∀ c, slotV c (fb k) (lb k) = if c then (.iface 56 (.pointer (some ⟨fb k, 0, none⟩))) else (.iface 53 (.pointer (some ⟨lb k, 0, none⟩))) := fun c => by cases c <;> rfl
  by_cases h : k = 0 ∨ code (k - 1) ≠ 0
  · have hv : slotVal code lb fb n k = slotV (cv code n (k - 1)) (fb k) (lb k) := by
      cases k with
      | zero => rfl
      | succ k =>
        rcases h with h | h
        · omega
        · exact if_neg h
    cases hc : cv code n (k - 1) with
    | true => exact Or.inr (Or.inl ⟨by simp [kindOf, h, hc], h, rfl, by rw [hv, hc]; rfl⟩)
    | false => exact Or.inr (Or.inr ⟨by simp [kindOf, h, hc], by rw [hv, hc]; rfl⟩)
  · refine Or.inl ⟨by simp only [kindOf]; rw [if_neg h], ?_⟩
    cases k with
    | zero => exact absurd (Or.inl rfl) h
    | succ k => exact if_pos (Classical.byContradiction fun hne => h (Or.inr hne))

theorem Rows3.drew {code lb fb : Nat → Nat} {val : Nat → Int} {wr : World} {B n k : Nat} (h : Rows3 code lb fb val wr B n k) : Rows3 code lb fb val wr.drew B n k := ⟨h.fl, h.il, h.gl⟩
theorem Rows3.below {code lb fb : Nat → Nat} {val : Nat → Int} {wr w' : World} {B n k : Nat} (h : Rows3 code lb fb val wr B n k) (hb : Below wr.heap.size wr w') : Rows3 code lb fb val w' B n k :=
  have hk := Keeps.below hb
  ⟨hk.row h.fl, hk.row h.il, hk.row h.gl⟩
theorem lt_cases {k i : Nat} {α : Type} (F : Nat → α) (d v : α) (hv : v = F k) : (if i = k then v else if i < k then F i else d) = if i < k + 1 then F i else d := by
  by_cases e : i = k
  · subst e; simp [hv]
  · by_cases h : i < k
    · rw [if_neg e, if_pos h, if_pos (by omega)]
    · rw [if_neg e, if_neg h, if_neg (by omega)]
theorem lt_default {k i : Nat} {α : Type} (F : Nat → α) (d : α) (hv : F k = d) : (if i < k then F i else d) = if i < k + 1 then F i else d := by
  by_cases e : i = k
  · subst e; simp [hv]
  · by_cases h : i < k
    · rw [if_pos h, if_pos (by omega)]
    · rw [if_neg h, if_neg (by omega)]
theorem Rows3.step0 {code lb fb : Nat → Nat} {val : Nat → Int} {wr : World} {B n k : Nat} (h : Rows3 code lb fb val wr B n k) (hk : kindOf code n k = 0) : Rows3 code lb fb val wr B n (k + 1) :=
  ⟨h.fl.congr fun i _ => lt_default (flF code fb n) _ (by simp [flF, hk]), h.il.congr fun i _ => lt_default (inF code lb n) _ (by simp [inF, hk]), h.gl.congr fun i _ => lt_default (fvF code val n) _ (by simp [fvF, hk])⟩
theorem Rows3.step1 {code lb fb : Nat → Nat} {val : Nat → Int} {wr : World} {B n k : Nat} (h : Rows3 code lb fb val wr B n k) (hk : kindOf code n k = 1) :
    Rows3 code lb fb val (((wr.setCell ⟨B, k, none⟩ (ptr (fb k))).setCell ⟨B + 1, k, none⟩ (.pointer none)).setCell ⟨B + 1 + 1, k, none⟩ (.float .f64 (floatOfInt .f64 (val k)))) B n (k + 1) :=
  ⟨(((h.fl.set k _).setOther (by first | (simp; done) | (simp; omega)) _).setOther (by first | (simp; done) | (simp; omega)) _).congr fun i _ => lt_cases (flF code fb n) _ _ (by simp [flF, hk]),
   (((h.il.setOther (by first | (simp; done) | (simp; omega)) _).set k _).setOther (by first | (simp; done) | (simp; omega)) _).congr fun i _ => lt_cases (inF code lb n) _ _ (by simp [inF, hk]),
   (((h.gl.setOther (by first | (simp; done) | (simp; omega)) _).setOther (by first | (simp; done) | (simp; omega)) _).set k _).congr fun i _ => lt_cases (fvF code val n) _ _ (by simp [fvF, hk])⟩
theorem Rows3.step2 {code lb fb : Nat → Nat} {val : Nat → Int} {wr : World} {B n k : Nat} (h : Rows3 code lb fb val wr B n k) (hk : kindOf code n k = 2) :
    Rows3 code lb fb val ((wr.setCell ⟨B, k, none⟩ (.pointer none)).setCell ⟨B + 1, k, none⟩ (ptr (lb k))) B n (k + 1) :=
  ⟨((h.fl.set k _).setOther (by first | (simp; done) | (simp; omega)) _).congr fun i _ => lt_cases (flF code fb n) _ _ (by simp [flF, hk]),
   ((h.il.setOther (by first | (simp; done) | (simp; omega)) _).set k _).congr fun i _ => lt_cases (inF code lb n) _ _ (by simp [inF, hk]),
   ((h.gl.setOther (by first | (simp; done) | (simp; omega)) _).setOther (by first | (simp; done) | (simp; omega)) _).congr fun i _ => lt_default (fvF code val n) _ (by simp [fvF, hk])⟩
theorem Rows3.start (code lb fb : Nat → Nat) (val : Nat → Int) (w : World) (n : Nat) :
    Rows3 code lb fb val (((w.alloc (.cells (madeCells #[.pointer none] (n + 1)) 56)).alloc (.cells (madeCells #[.pointer none] (n + 1)) 53)).alloc (.cells (madeCells #[.float .f64 0] (n + 1)) 27)) w.heap.size n 0 := by
  have hm : ∀ (v : Value) i, i < n + 1 → (madeCells #[v] (n + 1))[i]? = some v := fun v i hi => by simp [madeCells, hi, Nat.mod_one]
  refine ⟨⟨_, ?_, size_madeCells _ _, fun i hi => by simpa using hm _ i hi⟩, ⟨_, ?_, size_madeCells _ _, fun i hi => by simpa using hm _ i hi⟩, ⟨_, ?_, size_madeCells _ _, fun i hi => by simpa using hm _ i hi⟩⟩
  · rw [alloc_old _ (by simp only [alloc_size]; omega), alloc_old _ (by simp only [alloc_size]; omega)]; exact alloc_new _ _
  · rw [alloc_old _ (by simp only [alloc_size]; omega)]; exact alloc_new' (by simp only [alloc_size])
  · exact alloc_new' (by simp only [alloc_size])

theorem Fin.again {z : Nat → Int} {nb lb fb : Nat → Nat} {val : Nat → Int} {w0 w : World} {sb lv un bi vb n m : Nat} {T : TypeId} {p : Nat} {ao : Option Addr} (h : Fin (codeOf z) nb lb fb val w0 w sb lv un bi vb n m T p ao z) :
    Calls Tryz.prog 9 #[.pointer (some ⟨sb, 0, none⟩)] w fun e w' => e = .returned (.tuple #[]) ∧ Below w.heap.size w w' := by
  refine floatify_of ((again_all n (Nat.le_refl _) (cv_end _ _) w sb 0 _ 46 h.done h.root (by rw [← h.rootV]; rfl)).mono ?_)
  intro e w' hp
  exact ⟨hp.1, hp⟩
end Go.Proofs.YtpjbeenakkfcfaaGreat

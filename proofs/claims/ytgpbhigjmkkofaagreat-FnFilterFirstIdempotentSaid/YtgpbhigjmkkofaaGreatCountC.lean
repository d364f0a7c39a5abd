/- What countAny's Visit does to the tree 'L op R', in each of its cases. -/
import Derived.Test.YtgpbhigjmkkofaaGreatCountB
namespace Go.Proofs.YtgpbhigjmkkofaaGreat
open Go.RowKit Go.Deep

theorem hasBin : Has 60 "Type" 89 ∧ Has 60 "Location" 83 :=
  ⟨fun p w => by kernel_rfl, fun p w => by kernel_rfl⟩
theorem hasBui : Has 77 "SetType" 87 ∧ Has 77 "SetLocation" 85 :=
  ⟨fun p w => by kernel_rfl, fun p w => by kernel_rfl⟩
theorem aheadBui (q : Nat) (w : World) : (nilAhead 880 77 (.pointer (some ⟨q, 0, none⟩)) "SetLocation").run Tryz.prog w = .ok (some false) w := by kernel_rfl

/-- the text 'any' -/
def anyText : Value := .string ⟨#[97, 110, 121]⟩
/-- the rewrite's condition -/
def Rw (name op : ByteArray) (n : Nat) (v : Int) : Prop := name.toList = [99, 111, 117, 110, 116] ∧ n = 2 ∧ ((op.toList = [62] ∧ v = 0) ∨ (op.toList = [62, 61] ∧ v = 1))
theorem Rw.no_name {name op : ByteArray} {n : Nat} {v : Int} (h : ¬ name.toList = [99, 111, 117, 110, 116]) : ¬ Rw name op n v := fun x => h x.1
theorem Rw.no_n {name op : ByteArray} {n : Nat} {v : Int} (h : ((n : Int) != 2) = true) : ¬ Rw name op n v := fun x => by have := x.2.1; subst this; simp at h
theorem Rw.no_v0 {name op : ByteArray} {n : Nat} {v : Int} (h : op.toList = [62]) (h2 : ¬ v = 0) : ¬ Rw name op n v := fun x => by
  rcases x.2.2 with y | y
  · exact h2 y.2
  · rw [h] at y; simp at y
theorem Rw.no_v1 {name op : ByteArray} {n : Nat} {v : Int} (h : op.toList = [62, 61]) (h2 : (v == 1) = false) : ¬ Rw name op n v := fun x => by
  rcases x.2.2 with y | y
  · rw [h] at y; simp at y
  · simp [y.2] at h2
theorem Rw.no_op {name op : ByteArray} {n : Nat} {v : Int} (h : ¬ op.toList = [62]) (h2 : ¬ op.toList = [62, 61]) : ¬ Rw name op n v := fun x => by
  rcases x.2.2 with y | y
  · exact h y.1
  · exact h2 y.1
theorem Rw.yes0 {name op : ByteArray} {n : Nat} {v : Int} (h : name.toList = [99, 111, 117, 110, 116]) (h2 : ((n : Int) != 2) = false) (h3 : op.toList = [62]) (h4 : v = 0) : Rw name op n v :=
  ⟨h, by simp at h2; omega, Or.inl ⟨h3, h4⟩⟩
theorem Rw.yes1 {name op : ByteArray} {n : Nat} {v : Int} (h : name.toList = [99, 111, 117, 110, 116]) (h2 : ((n : Int) != 2) = false) (h3 : op.toList = [62, 61]) (h4 : (v == 1) = true) : Rw name op n v :=
  ⟨h, by simp at h2; omega, Or.inr ⟨h3, by simpa using h4⟩⟩
/-- what Visit leaves -/
def Kept (w : World) (e : Ending) (w' : World) : Prop := e = .returned (.tuple #[]) ∧ Below w.heap.size w w'
def Made (w : World) (a bn n : Nat) (e : Ending) (w' : World) : Prop :=
  e = .returned (.tuple #[]) ∧ ∃ q, Wr [a] w w' ∧ w.heap.size ≤ q ∧ w'.heap[a]? = some (.cells #[(.iface 77 (.pointer (some ⟨q, 0, none⟩)))] 59 (0, 0)) ∧
    w'.heap[q]? = some (.cells (nd anyTy 20 false false [anyText, (.slice (some ⟨bn, 0, none⟩) n n), .bool false, .nilIface, .pointer none]) 84 (0, 0))
def VisitPost (w : World) (rw : Prop) (a bn n : Nat) (e : Ending) (w' : World) : Prop := (¬ rw ∧ Kept w e w') ∨ (rw ∧ Made w a bn n e w')

theorem VisitPost.no {w w' : World} {rw : Prop} {a bn n : Nat} (h : ¬ rw) (hb : Below w.heap.size w w') : VisitPost w rw a bn n (.returned (.tuple #[])) w' := Or.inl ⟨h, rfl, hb⟩

theorem Made.of {w w2 : World} {o : Obj} {a bn n : Nat} (ha : a < w.heap.size) (hw : Wr [a, w.heap.size] (w.alloc o) w2) (h1 : w2.heap[a]? = some (.cells #[(.iface 77 (.pointer (some ⟨w.heap.size, 0, none⟩)))] 59 (0, 0)))
    (h2 : w2.heap[w.heap.size]? = some (.cells (nd anyTy 20 false false [anyText, (.slice (some ⟨bn, 0, none⟩) n n), .bool false, .nilIface, .pointer none]) 84 (0, 0))) : Made w a bn n (.returned (.tuple #[])) w2 :=
  ⟨rfl, w.heap.size, ((Wr.refl [a] w).alloc o).trans hw (by intro x hx hlt; simp at hx; rcases hx with rfl | rfl; simp; omega), Nat.le_refl _, h1, h2⟩

set_option maxRecDepth 100000 in
set_option maxHeartbeats 1000000 in
theorem visit_bi (r : Value) (a pb pl pr bn n : Nat) (name op : ByteArray) (v : Int) (w : World)
    (ha : w.heap[a]? = some (.cells #[(.iface 60 (.pointer (some ⟨pb, 0, none⟩)))] 59 (0, 0)))
    (hb : w.heap[pb]? = some (.cells (nd0 [.string op, (.iface 77 (.pointer (some ⟨pl, 0, none⟩))), (.iface 39 (.pointer (some ⟨pr, 0, none⟩)))]) 66 (0, 0)))
    (hl : w.heap[pl]? = some (.cells (nd0 [.string name, (.slice (some ⟨bn, 0, none⟩) n n), .bool false, .nilIface, .pointer none]) 84 (0, 0)))
    (hr : IntAt w pr v) :
    Calls Tryz.prog 32 #[r, .pointer (some ⟨a, 0, none⟩)] w (VisitPost w (Rw name op n v) a bn n) := by
  have c0 : w.cell? ⟨a, 0, none⟩ = some (.iface 60 (.pointer (some ⟨pb, 0, none⟩))) := by rw [cell_of_block ha]; rfl
  have c1 : w.cell? ⟨pb, 11, none⟩ = some (.string op) := by rw [cell_of_block hb]; rfl
  have c2 : w.cell? ⟨pb, 12, none⟩ = some (.iface 77 (.pointer (some ⟨pl, 0, none⟩))) := by rw [cell_of_block hb]; rfl
  have c3 : w.cell? ⟨pb, 13, none⟩ = some (.iface 39 (.pointer (some ⟨pr, 0, none⟩))) := by rw [cell_of_block hb]; rfl
  have c4 : w.cell? ⟨pl, 11, none⟩ = some (.string name) := by rw [cell_of_block hl]; rfl
  have c5 : w.cell? ⟨pl, 12, none⟩ = some (.slice (some ⟨bn, 0, none⟩) n n) := by rw [cell_of_block hl]; rfl
  have c6 : w.cell? ⟨pr, 11, none⟩ = some (.int .i64 v) := by rw [cell_of_block hr]; rfl
  have tBin := ta_hit Tryz.underlying60 59
  have tBui := ta_hit Tryz.underlying77 59
  have tInt := ta_hit Tryz.underlying39 59
  have HA := Lib.hid ha
  have HB := Lib.hid hb
  have HL := Lib.hid hl
  have HR := Lib.hid hr
  clear ha hb hl hr
  go_enter Tryz.func32, Tryz.ntmps32
  go_wp2_with fail
  all_goals first
    | (go_end0; refine VisitPost.no ?_ (Below.refl _ _); (first | exact Rw.no_name (by assumption) | exact Rw.no_n (by assumption) | exact Rw.no_v0 (by assumption) (by assumption) | exact Rw.no_v1 (by assumption) (by assumption) | exact Rw.no_op (by assumption) (by assumption)))
    | (refine bodyPost_ret (results_none rfl _ _ _) rfl (VisitPost.no ?_ (Below.refl _ _)); (first | exact Rw.no_name (by assumption) | exact Rw.no_n (by assumption) | exact Rw.no_v0 (by assumption) (by assumption) | exact Rw.no_v1 (by assumption) (by assumption) | exact Rw.no_op (by assumption) (by assumption)))
    | skip
  all_goals
    refine (patchCopyType_any a pb w.heap.size _ _ _ _ _ [anyText, (.slice (some ⟨bn, 0, none⟩) n n), .bool false, .nilIface, .pointer none] _ hasBin.1 hasBui.1 hasBin.2 hasBui.2 (aheadBui _) (by rw [alloc_old _ (lt_of_heap HA.out)]; exact HA.out) (by rw [alloc_old _ (lt_of_heap HB.out)]; exact HB.out) (alloc_new _ _) (by have := lt_of_heap HA.out; omega) (by have := lt_of_heap HB.out; omega)).mono ?_
    rintro e w2 ⟨rfl, hw, h1, h2⟩
    have hm := Lib.hid (Made.of (lt_of_heap HA.out) hw h1 h2)
    clear hw h1 h2
    go_wp2_with fail
    go_end0
    refine Or.inr ⟨?_, hm.out⟩
    first | exact Rw.yes0 (by assumption) (by assumption) (by assumption) (by assumption) | exact Rw.yes1 (by assumption) (by assumption) (by assumption) (by assumption)

set_option maxRecDepth 100000 in
set_option maxHeartbeats 1000000 in
theorem visit_id (r R : Value) (a pb pl : Nat) (op : ByteArray) (w : World)
    (ha : w.heap[a]? = some (.cells #[(.iface 60 (.pointer (some ⟨pb, 0, none⟩)))] 59 (0, 0)))
    (hb : w.heap[pb]? = some (.cells (nd0 [.string op, (.iface 37 (.pointer (some ⟨pl, 0, none⟩))), R]) 66 (0, 0))) :
    Calls Tryz.prog 32 #[r, .pointer (some ⟨a, 0, none⟩)] w (Kept w) := by
  have c0 : w.cell? ⟨a, 0, none⟩ = some (.iface 60 (.pointer (some ⟨pb, 0, none⟩))) := by rw [cell_of_block ha]; rfl
  have c2 : w.cell? ⟨pb, 12, none⟩ = some (.iface 37 (.pointer (some ⟨pl, 0, none⟩))) := by rw [cell_of_block hb]; rfl
  have tBin := ta_hit Tryz.underlying60 59
  have tBui := ta_miss Tryz.underlying77 zBui (show 37 ≠ 77 by decide) 59
  clear ha hb
  go_enter Tryz.func32, Tryz.ntmps32
  go_wp2_with fail
  all_goals first
    | (go_end0; exact ⟨rfl, Below.refl _ _⟩)
    | (refine bodyPost_ret (results_none rfl _ _ _) rfl ?_; exact ⟨rfl, Below.refl _ _⟩)

set_option maxRecDepth 100000 in
set_option maxHeartbeats 1000000 in
theorem visit_bf (r : Value) (a pb pl pr bn n : Nat) (name op : ByteArray) (w : World)
    (ha : w.heap[a]? = some (.cells #[(.iface 60 (.pointer (some ⟨pb, 0, none⟩)))] 59 (0, 0)))
    (hb : w.heap[pb]? = some (.cells (nd0 [.string op, (.iface 77 (.pointer (some ⟨pl, 0, none⟩))), (.iface 55 (.pointer (some ⟨pr, 0, none⟩)))]) 66 (0, 0)))
    (hl : w.heap[pl]? = some (.cells (nd0 [.string name, (.slice (some ⟨bn, 0, none⟩) n n), .bool false, .nilIface, .pointer none]) 84 (0, 0))) :
    Calls Tryz.prog 32 #[r, .pointer (some ⟨a, 0, none⟩)] w (Kept w) := by
  have c0 : w.cell? ⟨a, 0, none⟩ = some (.iface 60 (.pointer (some ⟨pb, 0, none⟩))) := by rw [cell_of_block ha]; rfl
  have c2 : w.cell? ⟨pb, 12, none⟩ = some (.iface 77 (.pointer (some ⟨pl, 0, none⟩))) := by rw [cell_of_block hb]; rfl
  have c3 : w.cell? ⟨pb, 13, none⟩ = some (.iface 55 (.pointer (some ⟨pr, 0, none⟩))) := by rw [cell_of_block hb]; rfl
  have c4 : w.cell? ⟨pl, 11, none⟩ = some (.string name) := by rw [cell_of_block hl]; rfl
  have c5 : w.cell? ⟨pl, 12, none⟩ = some (.slice (some ⟨bn, 0, none⟩) n n) := by rw [cell_of_block hl]; rfl
  have tBin := ta_hit Tryz.underlying60 59
  have tBui := ta_hit Tryz.underlying77 59
  have tInt := ta_miss Tryz.underlying39 zInt (show 55 ≠ 39 by decide) 59
  clear ha hb hl
  go_enter Tryz.func32, Tryz.ntmps32
  go_wp2_with fail
  all_goals first
    | (go_end0; exact ⟨rfl, Below.refl _ _⟩)
    | (refine bodyPost_ret (results_none rfl _ _ _) rfl ?_; exact ⟨rfl, Below.refl _ _⟩)

theorem Kept.pre {w w' : World} {o : Obj} {e : Ending} (h : Kept (w.alloc o) e w') : Kept w e w' :=
  ⟨h.1, ((Below.refl w.heap.size w).alloc (Nat.le_refl _) o).trans (h.2.mono (by rw [alloc_size]; omega))⟩
theorem Made.pre {w w' : World} {o : Obj} {a bn n : Nat} {e : Ending} (h : Made (w.alloc o) a bn n e w') : Made w a bn n e w' := by
  obtain ⟨h1, q, hw, hq, r⟩ := h
  exact ⟨h1, q, ((Wr.refl [a] w).alloc o).trans hw (fun x hx _ => hx), by rw [alloc_size] at hq; omega, r⟩
theorem VisitPost.pre {w w' : World} {o : Obj} {rw' : Prop} {a bn n : Nat} {e : Ending} (h : VisitPost (w.alloc o) rw' a bn n e w') : VisitPost w rw' a bn n e w' :=
  h.elim (fun x => Or.inl ⟨x.1, x.2.pre⟩) (fun x => Or.inr ⟨x.1, x.2.pre⟩)

theorem Count.move {w0 w w' : World} {lb rb : Bool} {name op : ByteArray} {n : Nat} {v : Int} {pb pl pr bn b0 ba : Nat} (h : Count w0 w lb rb name op n v pb pl pr bn b0 ba)
    (hw : Below w0.heap.size w0 w') (hk : ∀ (k : Nat) (o : Obj), w.heap[k]? = some o → w'.heap[k]? = some o) : Count w0 w' lb rb name op n v pb pl pr bn b0 ba where
  below := hw
  args := h.args.move fun k hl _ => by rw [hk k _ (Array.getElem?_eq_getElem hl), Array.getElem?_eq_getElem hl]
  bin := hk _ _ h.bin
  left := by
    have := h.left
    cases lb
    · exact hk _ _ this
    · exact hk _ _ this
  right := by
    have := h.right
    cases rb
    · obtain ⟨x, hx⟩ := this; exact ⟨x, hk _ _ hx⟩
    · exact hk _ _ this
  new := h.new
  apart := h.apart
theorem Count.alloc {w0 w : World} {lb rb : Bool} {name op : ByteArray} {n : Nat} {v : Int} {pb pl pr bn b0 ba : Nat} (h : Count w0 w lb rb name op n v pb pl pr bn b0 ba) (o : Obj) : Count w0 (w.alloc o) lb rb name op n v pb pl pr bn b0 ba :=
  h.move (h.below.alloc h.below.size o) fun k x hx => by rw [alloc_old _ (lt_of_heap hx)]; exact hx

/-- the whole of the tree that countAny's Visit is handed: what it leaves -/
def Visited (w : World) (lb rb : Bool) (name op : ByteArray) (n : Nat) (v : Int) (a bn : Nat) (e : Ending) (w' : World) : Prop :=
  VisitPost w (lb = true ∧ rb = true ∧ Rw name op n v) a bn n e w'

set_option maxRecDepth 100000 in
set_option maxHeartbeats 1000000 in
theorem zzVisit (lb rb : Bool) (a pb pl pr bn b0 ba n : Nat) (name op : ByteArray) (v : Int) (w0 w : World) (hc : Count w0 w lb rb name op n v pb pl pr bn b0 ba)
    (ha : w.heap[a]? = some (.cells #[(.iface 60 (.pointer (some ⟨pb, 0, none⟩)))] 59 (0, 0))) :
    Calls Tryz.prog 15 #[.pointer (some ⟨a, 0, none⟩)] w (Visited w lb rb name op n v a bn) := by
  have HC := Lib.hid hc
  have HA := Lib.hid ha
  clear hc ha
  go_enter Tryz.func15, Tryz.ntmps15
  go_wp2_with fail
  have keep : ∀ (k : Nat) (o : Obj), w.heap[k]? = some o → (w.alloc (.cells #[] 108)).heap[k]? = some o := fun k o h => by rw [alloc_old _ (lt_of_heap h)]; exact h
  have HK := Lib.hid keep
  clear keep
  cases lb
  · refine (visit_id _ (if rb then (.iface 39 (.pointer (some ⟨pr, 0, none⟩))) else (.iface 55 (.pointer (some ⟨pr, 0, none⟩)))) a pb pl op _ (HK.out _ _ HA.out) (HK.out _ _ HC.out.bin)).mono ?_
    rintro e w2 hk
    obtain ⟨rfl, hb⟩ := hk
    go_wp2_with fail
    go_end0
    exact Or.inl ⟨(fun h => by cases h.1), Kept.pre ⟨rfl, hb⟩⟩
  · cases rb
    · refine (visit_bf _ a pb pl pr bn n name op _ (HK.out _ _ HA.out) (HK.out _ _ HC.out.bin) (HK.out _ _ HC.out.left)).mono ?_
      rintro e w2 hk
      obtain ⟨rfl, hb⟩ := hk
      go_wp2_with fail
      go_end0
      exact Or.inl ⟨(fun h => by cases h.2.1), Kept.pre ⟨rfl, hb⟩⟩
    · refine (visit_bi _ a pb pl pr bn n name op v _ (HK.out _ _ HA.out) (HK.out _ _ HC.out.bin) (HK.out _ _ HC.out.left) (HK.out _ _ HC.out.right)).mono ?_
      rintro e w2 hk
      have he : e = .returned (.tuple #[]) := hk.elim (fun x => x.2.1) (fun x => x.2.1)
      subst he
      have HV := Lib.hid hk
      clear hk
      go_wp2_with fail
      go_end0
      exact HV.out.pre.elim (fun x => Or.inl ⟨fun h => x.1 h.2.2, x.2⟩) (fun x => Or.inr ⟨⟨rfl, rfl, x.1⟩, x.2⟩)
end Go.Proofs.YtgpbhigjmkkofaaGreat

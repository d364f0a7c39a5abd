/- The contracts of filterFirst's parts, for every case at once. Printed by joingen.py. -/
import Derived.Test.YtgpbhigjmkkofaaGreatFirstA
import Derived.Test.YtgpbhigjmkkofaaGreatFirstB
import Derived.Test.YtgpbhigjmkkofaaGreatFirstV
import Derived.Test.YtgpbhigjmkkofaaGreatFirstI
namespace Go.Proofs.YtgpbhigjmkkofaaGreat
open Go.RowKit Go.Deep

def FK.code (K : FK) : Int := match K with
  | .mem => 0
  | .bui => 1
  | .idn => 2
def FP.code (P : FP) : Int := match P with
  | .no => 0
  | .num => 1
  | .str => 2
def ikCode (ik : Bool) : Int := match ik with
  | true => 0
  | false => 1

set_option maxRecDepth 100000 in
theorem build_all (K : FK) (P : FP) (ik wm : Bool) (n : Nat) (hn : n ≤ 4096) (on inn : ByteArray) (m : Nat) (hm : m ≤ 4096) (pv : Int) (opt : Bool) (w : World) :
    Calls Tryz.prog 20 #[.int .i64 K.code, .string on, .int .i64 m, .int .i64 P.code, .int .i64 pv, .bool opt, .int .i64 (ikCode ik), .string inn, .int .i64 n, .bool wm] w (FFPost w K P on m pv opt ik wm inn n) := by
  cases K
  · cases P
    · cases ik
      · exact ff_memno_id n hn on inn m hm pv opt wm w
      · cases wm
        · exact ff_memno_bn n hn on inn m hm pv opt w
        · exact ff_memno_bm n hn on inn m hm pv opt w
    · cases ik
      · exact ff_memnum_id n hn on inn m hm pv opt wm w
      · cases wm
        · exact ff_memnum_bn n hn on inn m hm pv opt w
        · exact ff_memnum_bm n hn on inn m hm pv opt w
    · cases ik
      · exact ff_memstr_id n hn on inn m hm pv opt wm w
      · cases wm
        · exact ff_memstr_bn n hn on inn m hm pv opt w
        · exact ff_memstr_bm n hn on inn m hm pv opt w
  · cases ik
    · exact ff_bui_id n hn on inn m hm pv opt P.code P wm w
    · cases wm
      · exact ff_bui_bn n hn on inn m hm pv opt P.code P w
      · exact ff_bui_bm n hn on inn m hm pv opt P.code P w
  · cases ik
    · exact ff_idn_id n hn on inn m hm pv opt P.code P wm w
    · cases wm
      · exact ff_idn_bn n hn on inn m hm pv opt P.code P w
      · exact ff_idn_bm n hn on inn m hm pv opt P.code P w

/-- one more world: all that was there is as it was -/
def Keeps (w w' : World) : Prop := ∀ (k : Nat) (o : Obj), w.heap[k]? = some o → w'.heap[k]? = some o
theorem Keeps.alloc (w : World) (o : Obj) : Keeps w (w.alloc o) := fun _ _ h => by rw [alloc_old _ (lt_of_heap h)]; exact h
theorem Keeps.trans {a b c : World} (h : Keeps a b) (k : Keeps b c) : Keeps a c := fun i o hi => k i o (h i o hi)
theorem Keeps.below {w w' : World} (h : Below w.heap.size w w') : Keeps w w' := fun _ _ hk => below_keep h hk
theorem Keeps.cell {w w' : World} (h : Keeps w w') {a : Addr} {v : Value} (hc : w.cell? a = some v) : w'.cell? a = some v := by
  rw [← hc]
  have hl := lt_of_cell hc
  exact World.cell?_of_block (w := w) (by rw [h a.block _ (Array.getElem?_eq_getElem hl), Array.getElem?_eq_getElem hl])

theorem FF.move {w0 w w' : World} {K : FK} {P : FP} {on : ByteArray} {m : Nat} {pv : Int} {opt ik wm : Bool} {inn : ByteArray} {n pr pp bo pi pm ba bn b0 : Nat} (h : FF w0 w K P on m pv opt ik wm inn n pr pp bo pi pm ba bn b0)
    (hb : Below w0.heap.size w0 w') (hk : Keeps w w') : FF w0 w' K P on m pv opt ik wm inn n pr pp bo pi pm ba bn b0 where
  below := hb
  args := h.args.move fun k hl _ => by rw [hk k _ (Array.getElem?_eq_getElem hl), Array.getElem?_eq_getElem hl]
  inner := by
    have hi := h.inner
    cases ik
    · exact hk _ _ hi
    · exact hk _ _ hi
  root := by
    have hr := h.root
    cases K
    · refine ⟨hk _ _ hr.1, ?_⟩
      cases P
      · trivial
      · exact hk _ _ hr.2
      · trivial
    · exact ⟨hk _ _ hr.1, fun hm => hk.cell (hr.2 hm)⟩
    · exact hk _ _ hr
theorem FF.alloc {w0 w : World} {K : FK} {P : FP} {on : ByteArray} {m : Nat} {pv : Int} {opt ik wm : Bool} {inn : ByteArray} {n pr pp bo pi pm ba bn b0 : Nat} (h : FF w0 w K P on m pv opt ik wm inn n pr pp bo pi pm ba bn b0) (o : Obj) :
    FF w0 (w.alloc o) K P on m pv opt ik wm inn n pr pp bo pi pm ba bn b0 := h.move (h.below.alloc h.below.size o) (Keeps.alloc w o)

/-- the rewrite's condition -/
def FRw (K : FK) (P : FP) (on : ByteArray) (m : Nat) (pv : Int) (opt ik : Bool) (inn : ByteArray) (n : Nat) : Prop := match K with
  | .mem => P = .num ∧ ik = true ∧ pv = 0 ∧ opt = false ∧ FOk 0 inn n
  | .bui => ik = true ∧ FBui 1 on m ∧ FOk 0 inn n
  | .idn => False
def FK.thr (K : FK) : Bool := match K with
  | .mem => true
  | _ => false

theorem FVisit.of_kept {w w' : World} {rw' : Prop} {a bn n : Nat} {thr wm : Bool} {pm : Nat} {e : Ending} (hr : ¬ rw') (h : Kept w e w') : FVisit w rw' a bn n thr wm pm e w' := Or.inl ⟨hr, h⟩
theorem FVisit.iff {w w' : World} {r1 r2 : Prop} {a bn n : Nat} {thr wm : Bool} {pm : Nat} {e : Ending} (hr : r1 ↔ r2) (h : FVisit w r1 a bn n thr wm pm e w') : FVisit w r2 a bn n thr wm pm e w' :=
  h.elim (fun x => Or.inl ⟨fun y => x.1 (hr.2 y), x.2⟩) (fun x => Or.inr ⟨hr.1 x.1, x.2⟩)

theorem visit_all (r : Value) (K : FK) (P : FP) (on : ByteArray) (m : Nat) (pv : Int) (opt ik wm : Bool) (inn : ByteArray) (n a pr pp bo pi pm ba bn b0 : Nat) (w0 w : World) (h : FF w0 w K P on m pv opt ik wm inn n pr pp bo pi pm ba bn b0)
    (ha : w.heap[a]? = some (.cells #[rootV K pr] 59 (0, 0))) :
    Calls Tryz.prog 33 #[r, .pointer (some ⟨a, 0, none⟩)] w (FVisit w (FRw K P on m pv opt ik inn n) a bn n K.thr wm pm) := by
  have hi := h.inner
  have hr := h.root
  cases K
  · cases P
    · exact (ffv_mem_no r _ a pr opt w ha hr.1).mono fun e w' hk => FVisit.of_kept (by rintro ⟨x, _⟩; cases x) hk
    · cases ik
      · exact (ffv_mem_num_i r a pr pp pi pv opt w ha hr.1 hr.2).mono fun e w' hk => FVisit.of_kept (by rintro ⟨_, x, _⟩; cases x) hk
      · cases wm
        · exact (ffv_mem_num_b r a pr pp pi bn n inn pv opt pm w ha hr.1 hi hr.2).mono fun e w' hk => FVisit.iff ⟨fun x => ⟨rfl, rfl, x⟩, fun x => x.2.2⟩ hk
        · exact (ffv_mem_num_bm r a pr pp pi bn n inn pv opt pm w ha hr.1 hi hr.2).mono fun e w' hk => FVisit.iff ⟨fun x => ⟨rfl, rfl, x⟩, fun x => x.2.2⟩ hk
    · exact (ffv_mem_str r _ a pr pp opt w ha hr.1).mono fun e w' hk => FVisit.of_kept (by rintro ⟨x, _⟩; cases x) hk
  · cases ik
    · exact (ffv_bui_i r on a pr bo m pi w ha hr.1 hr.2).mono fun e w' hk => FVisit.of_kept (by rintro ⟨x, _⟩; cases x) hk
    · cases wm
      · exact (ffv_bui_b r on a pr bo m pi bn n inn pm w ha hr.1 hi hr.2).mono fun e w' hk => FVisit.iff ⟨fun x => ⟨rfl, x⟩, fun x => x.2⟩ hk
      · exact (ffv_bui_bm r on a pr bo m pi bn n inn pm w ha hr.1 hi hr.2).mono fun e w' hk => FVisit.iff ⟨fun x => ⟨rfl, x⟩, fun x => x.2⟩ hk
  · exact (ffv_idn r a pr w ha).mono fun e w' hk => FVisit.of_kept (fun x => x) hk

theorem MadeF.pre {w w' : World} {o : Obj} {a bn n : Nat} {thr wm : Bool} {pm : Nat} {e : Ending} (h : MadeF (w.alloc o) a bn n thr wm pm e w') : MadeF w a bn n thr wm pm e w' := by
  obtain ⟨h1, q, hw, hq, r⟩ := h
  exact ⟨h1, q, ((Wr.refl [a] w).alloc o).trans hw (fun x hx _ => hx), by rw [alloc_size] at hq; omega, r⟩
theorem FVisit.pre {w w' : World} {o : Obj} {rw' : Prop} {a bn n : Nat} {thr wm : Bool} {pm : Nat} {e : Ending} (h : FVisit (w.alloc o) rw' a bn n thr wm pm e w') : FVisit w rw' a bn n thr wm pm e w' :=
  h.elim (fun x => Or.inl ⟨x.1, x.2.pre⟩) (fun x => Or.inr ⟨x.1, x.2.pre⟩)
theorem FVisit.ret {w w' : World} {rw' : Prop} {a bn n : Nat} {thr wm : Bool} {pm : Nat} {e : Ending} (h : FVisit w rw' a bn n thr wm pm e w') : e = .returned (.tuple #[]) :=
  h.elim (fun x => x.2.1) (fun x => x.2.1)

set_option maxRecDepth 100000 in
set_option maxHeartbeats 1000000 in
theorem zzFFVisit (K : FK) (P : FP) (on : ByteArray) (m : Nat) (pv : Int) (opt ik wm : Bool) (inn : ByteArray) (n a pr pp bo pi pm ba bn b0 : Nat) (w0 w : World) (h : FF w0 w K P on m pv opt ik wm inn n pr pp bo pi pm ba bn b0)
    (ha : w.heap[a]? = some (.cells #[rootV K pr] 59 (0, 0))) :
    Calls Tryz.prog 21 #[.pointer (some ⟨a, 0, none⟩)] w (FVisit w (FRw K P on m pv opt ik inn n) a bn n K.thr wm pm) := by
  have H := Lib.hid h
  have HA := Lib.hid ha
  clear h ha
  go_enter Tryz.func21, Tryz.ntmps21
  go_wp2_with fail
  refine (visit_all _ K P on m pv opt ik wm inn n a pr pp bo pi pm ba bn b0 w0 _ (H.out.alloc _) (by rw [alloc_old _ (lt_of_heap HA.out)]; exact HA.out)).mono ?_
  rintro e w2 hk
  have he := hk.ret
  subst he
  have HV := Lib.hid hk
  clear hk
  go_wp2_with fail
  go_end0
  exact HV.out.pre

set_option maxRecDepth 100000 in
set_option maxHeartbeats 1000000 in
theorem zzFFVisit_find (a q bo m : Nat) (thr : Bool) (M : Value) (w : World) (ha : w.heap[a]? = some (.cells #[(.iface 77 (.pointer (some ⟨q, 0, none⟩)))] 59 (0, 0)))
    (hb : w.heap[q]? = some (.cells (nd anyTy 20 false false [findText, (.slice (some ⟨bo, 0, none⟩) m m), .bool thr, M, .pointer none]) 84 (0, 0))) :
    Calls Tryz.prog 21 #[.pointer (some ⟨a, 0, none⟩)] w (Kept w) := by
  have HB := Lib.hid hb
  have HA := Lib.hid ha
  clear hb ha
  go_enter Tryz.func21, Tryz.ntmps21
  go_wp2_with fail
  refine (ffv_find _ M thr a q bo m _ (by rw [alloc_old _ (lt_of_heap HA.out)]; exact HA.out) (by rw [alloc_old _ (lt_of_heap HB.out)]; exact HB.out)).mono ?_
  rintro e w2 ⟨rfl, hb⟩
  go_wp2_with fail
  go_end0
  exact Kept.pre ⟨rfl, hb⟩

/-- the tree that zzFFBuild returns, field by field -/
def TreeIs (K : FK) (ik wm : Bool) (pr pi pm : Nat) (v0 v1 v2 v3 v5 R : Value) : Prop :=
  R = rootV K pr ∧ v0 = (match K with | .mem => (.pointer (some ⟨pr, 0, none⟩)) | _ => .pointer none) ∧ v1 = (match K with | .bui => (.pointer (some ⟨pr, 0, none⟩)) | _ => .pointer none) ∧ v2 = (match K with | .idn => (.pointer (some ⟨pr, 0, none⟩)) | _ => .pointer none) ∧
  v3 = (match ik with | true => (.pointer (some ⟨pi, 0, none⟩)) | false => .pointer none) ∧ v5 = (match ik, wm with | true, true => (.pointer (some ⟨pm, 0, none⟩)) | _, _ => .pointer none)
theorem FFPost.fields {w w' : World} {K : FK} {P : FP} {on : ByteArray} {m : Nat} {pv : Int} {opt ik wm : Bool} {inn : ByteArray} {n : Nat} {e : Ending} (h : FFPost w K P on m pv opt ik wm inn n e w') :
    ∃ pr pp bo pi pm ba bn b0 o0 o1 o2 o3 o5 tR, e = .returned (.tuple #[.agg #[.pointer o0, .pointer o1, .pointer o2, .pointer o3, (.slice (some ⟨ba, 0, none⟩) n n), .pointer o5], .iface tR (.pointer (some ⟨pr, 0, none⟩))]) ∧ TreeIs K ik wm pr pi pm (.pointer o0) (.pointer o1) (.pointer o2) (.pointer o3) (.pointer o5) (.iface tR (.pointer (some ⟨pr, 0, none⟩))) ∧ FF w w' K P on m pv opt ik wm inn n pr pp bo pi pm ba bn b0 := by
  obtain ⟨pr, pp, bo, pi, pm, ba, bn, b0, he, hf⟩ := h
  cases K <;> cases ik <;> cases wm <;> exact ⟨pr, pp, bo, pi, pm, ba, bn, b0, _, _, _, _, _, _, he, ⟨rfl, rfl, rfl, rfl, rfl, rfl⟩, hf⟩

theorem unch_all {K : FK} {P : FP} {on : ByteArray} {m : Nat} {pv : Int} {opt ik wm : Bool} {inn : ByteArray} {n pr pp bo pi pm ba bn b0 : Nat} (hn : n ≤ 4096) {w0 w : World} (h : FF w0 w K P on m pv opt ik wm inn n pr pp bo pi pm ba bn b0)
    {v0 v1 v2 v3 v5 R : Value} (ht : TreeIs K ik wm pr pi pm v0 v1 v2 v3 v5 R) {k : Int} (hk : k = K.code) :
    Calls Tryz.prog 24 #[R, .agg #[v0, v1, v2, v3, (.slice (some ⟨ba, 0, none⟩) n n), v5], .int .i64 k, .string on, .int .i64 m, .bool opt, .string inn] w fun e w' => e = .returned (.bool true) ∧ Below w.heap.size w w' := by
  obtain ⟨rfl, rfl, rfl, rfl, rfl, h5⟩ := ht
  subst hk
  have hi := h.inner
  have hr := h.root
  cases K
  · cases ik
    · exact unch_mem_i _ v5 on inn m opt pr pi ba bn b0 n hn w (lt_of_heap hr.1) hr.1 trivial h.args
    · exact unch_mem_b _ v5 on inn m opt pr pi ba bn b0 n hn w (lt_of_heap hr.1) hr.1 ⟨_, hi⟩ h.args
  · cases ik
    · exact unch_bui_i bo v5 on inn m opt pr pi ba bn b0 n hn w (lt_of_heap hr.1) hr.1 hr.2 trivial h.args
    · exact unch_bui_b bo v5 on inn m opt pr pi ba bn b0 n hn w (lt_of_heap hr.1) hr.1 hr.2 ⟨_, hi⟩ h.args
  · cases ik
    · exact unch_idn_i v5 on inn m opt pr pi ba bn b0 n hn w (lt_of_heap hr) trivial h.args
    · exact unch_idn_b v5 on inn m opt pr pi ba bn b0 n hn w (lt_of_heap hr) ⟨_, hi⟩ h.args

theorem find_all {K : FK} {wm : Bool} {inn : ByteArray} {n pr pi pm ba bn b0 q : Nat} {w : World} (hok : FOk 0 inn n) (hin : FIn w true wm inn n pi pm bn) (ha : Args w ba bn b0 n) {thr : Bool}
    (hq : w.heap[q]? = some (.cells (nd anyTy 20 false false [findText, (.slice (some ⟨bn, 0, none⟩) n n), .bool thr, mapV wm pm, .pointer none]) 84 (0, 0)))
    {v0 v1 v2 v3 v5 R : Value} (ht : TreeIs K true wm pr pi pm v0 v1 v2 v3 v5 R) :
    Calls Tryz.prog 23 #[(.iface 77 (.pointer (some ⟨q, 0, none⟩))), .agg #[v0, v1, v2, v3, (.slice (some ⟨ba, 0, none⟩) n n), v5], .bool thr, .bool wm] w fun e w' => e = .returned (.bool true) ∧ Below w.heap.size w w' := by
  obtain ⟨_, _, _, _, rfl, rfl⟩ := ht
  have e2 : n = 2 := by have := hok.2.2; omega
  subst e2
  cases wm
  · exact isFind_f v0 v1 v2 thr inn q pi pm ba bn b0 w hok.2.1 hq hin ha
  · exact isFind_m v0 v1 v2 thr inn q pi pm ba bn b0 w hok.2.1 hq hin ha

theorem sameRoot_all (K : FK) (pr : Nat) (w : World) : Calls Tryz.prog 26 #[rootV K pr, rootV K pr] w fun e w' => e = .returned (.bool true) ∧ w = w' := by
  cases K
  · exact sameRoot_mem pr w
  · exact sameRoot_bui pr w
  · exact sameRoot_idn pr w
end Go.Proofs.YtgpbhigjmkkofaaGreat

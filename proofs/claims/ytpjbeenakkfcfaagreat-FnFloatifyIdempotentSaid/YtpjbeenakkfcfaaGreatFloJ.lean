/- Floatify: cloneBytes, cloneInts: a row of their own. -/
import Derived.Test.YtpjbeenakkfcfaaGreatFloI
import Derived.Test.YtpjbeenakkfcfaaGreatOpen
import Derived.Laws.CopyRow
namespace Go.Proofs.YtpjbeenakkfcfaaGreat
open Go.RowKit Go.Deep

theorem infoU8 : (Tryz.prog.info? 5).map (fun i => (i.zero, i.size, i.bytes)) = some (some (.int .u8 0), 1, 1) := by kernel_rfl
theorem infoI64 : (Tryz.prog.info? 3).map (fun i => (i.zero, i.size, i.bytes)) = some (some (.int .i64 0), 1, 8) := by kernel_rfl

/-- copy of a whole slice into a row just made: a row of its own, all else as it was -/
theorem copy_new {P : Program} (w : World) (sT elem : TypeId) (val : Nat → Value) (a : Addr) (len cap : Nat) (z0 : Value) (hu : P.underlying sT = some (.slice elem)) (hs : (P.info? elem).map (·.size) = some 1)
    (hx : ∀ i, i < len → w.cell? (a.add i) = some (val i)) (h1 : ∀ i, (val i).oneCell' = true) :
    ∃ W2, (∀ ty, (Builtin.copy_ #[sT, sT] ty #[.slice (some ⟨w.heap.size, 0, none⟩) len len, .slice (some a) len cap]).run P (w.alloc (.cells (madeCells #[z0] len) elem)) = .ok (goInt len) W2) ∧ Below w.heap.size w W2 ∧ W2.rowIs w.heap.size elem len val := by
  have hsz : (madeCells #[z0] len).size = len := size_madeCells _ _
  have hcs : ((List.range len).map val).length = len := by simp
  have hc : ∀ j v, ((List.range len).map val)[j]? = some v → (w.alloc (.cells (madeCells #[z0] len) elem)).cell? (a.add j) = some v := by
    intro j v hj
    have hjl : j < len := by
      by_cases h : j < len
      · exact h
      · rw [List.getElem?_eq_none (by simp; omega)] at hj; cases hj
    have hv : val j = v := by simpa [List.getElem?_map, List.getElem?_range hjl] using hj
    have h0 := hx j hjl
    rw [← hv, ← h0]
    exact World.cell?_of_block (w := w) (alloc_old _ (lt_of_cell h0))
  have h := fun ty => run_copy_row (P := P) (w.alloc (.cells (madeCells #[z0] len) elem)) sT sT ty elem w.heap.size 0 len len a len cap (madeCells #[z0] len) elem ((List.range len).map val) hu hs (alloc_new _ _) (by rw [hcs]; exact (Nat.min_self len).symm) hc (by rw [hcs, hsz]; omega) (fun v hv => by
      obtain ⟨i, _, rfl⟩ := List.mem_map.1 hv
      exact h1 i)
  simp only [hcs] at h
  refine ⟨_, h, ?_, ?_⟩
  · exact ((Below.refl _ w).alloc (Nat.le_refl _) _).trans ⟨rfl, rfl, rfl, by simp [World.setRow], fun k hk => setRow_other _ _ k _ (by omega)⟩
  · refine ⟨_, setRow_heap _ _ _ _ _ _ (alloc_new _ _), ?_, fun i hi => ?_⟩
    · simp [hsz]
    · simp [hsz, hi]

/-- nil, or a row of its own -/
def Own (w : World) (ao : Option Addr) (len : Nat) (T : TypeId) (f : Nat → Value) : Prop :=
  (ao = none ∧ len = 0) ∨ ∃ b, ao = some ⟨b, 0, none⟩ ∧ w.rowIs b T len f
def ClonePost (w : World) (len : Nat) (T : TypeId) (f : Nat → Value) (e : Ending) (w' : World) : Prop :=
  ∃ ao, e = .returned (.slice ao len len) ∧ Below w.heap.size w w' ∧ Own w' ao len T f

set_option maxRecDepth 100000 in
set_option maxHeartbeats 1000000 in
theorem cloneBytes (ao : Option Addr) (len cap : Nat) (f : Nat → Int) (w : World) (hl : len ≤ 65536) (hr : IsRowOf (fun x => .int .u8 x) (fun x => (Lit.int .u8 x).wf = true) w ao len cap f) :
    Calls Tryz.prog 6 #[.slice ao len cap] w (ClonePost w len 5 (fun i => .int .u8 (f i))) := by
  have qT : ∀ (w : World) (a : Option Addr) (n c n' c' : Nat), (binOp .eql 35 (.slice a n c) (.slice none n' c')).run Tryz.prog w = .ok (.bool a.isNone) w := fun w a n c n' c' => Lib.run_eql_slice_nil w _ _ a n c n' c' Tryz.underlying35
  rcases hr with ⟨rfl, rfl, rfl⟩ | ⟨x, rfl, hlc, hcm, hx⟩
  · go_enter Tryz.func6, Tryz.ntmps6
    go_wp2_with fail
    go_ret
    exact ⟨none, rfl, Below.refl _ _, Or.inl ⟨rfl, rfl⟩⟩
  · have mk := run_make_row' (P := Tryz.prog) 35 5 _ _ Tryz.underlying35 infoU8 rfl .i64 .i64 len (by omega) (by omega)
    obtain ⟨W2, hcp, hb, hrow⟩ := copy_new (P := Tryz.prog) w 35 5 (fun i => .int .u8 (f i)) x len cap (.int .u8 0) Tryz.underlying35 (by kernel_rfl) (fun i hi => (hx i hi).1) (fun _ => rfl)
    have HB := Lib.hid hb
    have HR := Lib.hid hrow
    clear hx hb hrow
    go_enter Tryz.func6, Tryz.ntmps6
    go_wp2_with fail
    go_ret
    exact ⟨_, rfl, HB.out, Or.inr ⟨_, rfl, HR.out⟩⟩

set_option maxRecDepth 100000 in
set_option maxHeartbeats 1000000 in
theorem cloneInts (ao : Option Addr) (len cap : Nat) (f : Nat → Int) (w : World) (hl : len ≤ 65536) (hr : IsRowOf (fun x => .int .i64 x) (fun x => (Lit.int .i64 x).wf = true) w ao len cap f) :
    Calls Tryz.prog 7 #[.slice ao len cap] w (ClonePost w len 3 (fun i => .int .i64 (f i))) := by
  have qT : ∀ (w : World) (a : Option Addr) (n c n' c' : Nat), (binOp .eql 36 (.slice a n c) (.slice none n' c')).run Tryz.prog w = .ok (.bool a.isNone) w := fun w a n c n' c' => Lib.run_eql_slice_nil w _ _ a n c n' c' Tryz.underlying36
  rcases hr with ⟨rfl, rfl, rfl⟩ | ⟨x, rfl, hlc, hcm, hx⟩
  · go_enter Tryz.func7, Tryz.ntmps7
    go_wp2_with fail
    go_ret
    exact ⟨none, rfl, Below.refl _ _, Or.inl ⟨rfl, rfl⟩⟩
  · have mk := run_make_row' (P := Tryz.prog) 36 3 _ _ Tryz.underlying36 infoI64 rfl .i64 .i64 len (by omega) (by omega)
    obtain ⟨W2, hcp, hb, hrow⟩ := copy_new (P := Tryz.prog) w 36 3 (fun i => .int .i64 (f i)) x len cap (.int .i64 0) Tryz.underlying36 (by kernel_rfl) (fun i hi => (hx i hi).1) (fun _ => rfl)
    have HB := Lib.hid hb
    have HR := Lib.hid hrow
    clear hx hb hrow
    go_enter Tryz.func7, Tryz.ntmps7
    go_wp2_with fail
    go_ret
    exact ⟨_, rfl, HB.out, Or.inr ⟨_, rfl, HR.out⟩⟩
end Go.Proofs.YtpjbeenakkfcfaaGreat

/- Flatten: zzCloneInts, zzCloneInts2, zzCloneInts3. Printed by flagen.py. -/
import Derived.Test.YtgnilcmhaobgeaaGreatFlaA
namespace Go.Proofs.YtgnilcmhaobgeaaGreat
open Go.RowKit Go.Deep

theorem infoI64 : (Tryz.prog.info? 3).map (fun i => (i.zero, i.size, i.bytes)) = some (some (.int .i64 0), 1, 8) := by kernel_rfl
theorem infoR1 : (Tryz.prog.info? 38).map (fun i => (i.zero, i.size, i.bytes)) = some (some (.slice none 0 0), 1, 24) := by kernel_rfl
theorem infoR2 : (Tryz.prog.info? 36).map (fun i => (i.zero, i.size, i.bytes)) = some (some (.slice none 0 0), 1, 24) := by kernel_rfl
/-- a clone, all else as it was -/
def ClPost {α : Type} (P : World → Value → α → Prop) (w : World) (x : α) (e : Ending) (w' : World) : Prop := ∃ v', e = .returned v' ∧ Below w.heap.size w w' ∧ P w' v' x

set_option maxRecDepth 100000 in
set_option maxHeartbeats 1000000 in
theorem clone1 (v : Value) (L : List Int) (w : World) (hl : L.length ≤ 1048576) (h : In1 w v L) : Calls Tryz.prog 10 #[v] w (ClPost Ow1 w L) := by
  have qT : ∀ (w : World) (a : Option Addr) (n c n' c' : Nat), (binOp .eql 38 (.slice a n c) (.slice none n' c')).run Tryz.prog w = .ok (.bool a.isNone) w := fun w a n c n' c' => Lib.run_eql_slice_nil w _ _ a n c n' c' Tryz.underlying38
  obtain ⟨a, c, rfl⟩ := h.shape
  cases a with
  | none =>
    obtain rfl := h.nil
    clear h
    go_enter Tryz.func10, Tryz.ntmps10
    go_wp2_with fail
    go_ret
    exact ⟨_, rfl, Below.refl _ _, OwS.nil _ _ _⟩
  | some x =>
    have mk := run_make_row' (P := Tryz.prog) 38 3 _ _ Tryz.underlying38 infoI64 rfl .i64 .i64 L.length (by omega) (by omega)
    have HX := Lib.hid h
    clear h
    go_enter Tryz.func10, Tryz.ntmps10
    go_wp2_with fail
    go_loopw [4] (fun i wr => ∃ k : Nat, k ≤ L.length ∧ i = .int .i64 k ∧ Cloned 3 P0 (.int .i64 0) w wr L k) (fun i _ => L.length - (intOf i).toNat)
    case atStart => exact ⟨0, Nat.zero_le _, rfl, Cloned.start _ _ _ _ _⟩
    case round =>
      obtain ⟨k, hk, rfl, hr⟩ := hrel
      by_cases hlt : k < L.length
      · obtain ⟨b, off, u, y, ha, hy, hc0, hu⟩ := HX.out.at hlt
        injection ha with ha
        subst ha
        obtain rfl : u = .int .i64 y := hu
        have hc : wr.cell? ⟨b, off + k, none⟩ = some (.int .i64 y) := by rw [hr.below.cell (p := ⟨b, off + k, none⟩) (lt_of_cell hc0)]; exact hc0
        obtain ⟨c1, c2, c3⟩ := hr.cell hlt
        have HS := Lib.hid (hr.step P0.stable (fun _ _ _ _ _ _ h _ => h) (Below.refl _ _) (.int .i64 y) y hy rfl)
        clear hr hc0 hy mk
        go_wp2_with fail
        go_roundw
        case rel => exact ⟨k + 1, by omega, by go_num, HS.out⟩
        case measure => simp [intOf]; omega
      · obtain rfl : k = L.length := by omega
        have HR := Lib.hid (hr.ends (Nat.le_refl _))
        have HB := Lib.hid hr.below
        clear hr mk
        go_wp2_with fail
        go_ret
        exact ⟨_, rfl, HB.out, HR.out⟩


set_option maxRecDepth 100000 in
set_option maxHeartbeats 1000000 in
theorem clone2 (v : Value) (L : List (List Int)) (w : World) (hl : L.length ≤ 1048576) (hL : ∀ x ∈ L, x.length ≤ 1048576) (h : In2 w v L) : Calls Tryz.prog 6 #[v] w (ClPost Ow2 w L) := by
  have qT : ∀ (w : World) (a : Option Addr) (n c n' c' : Nat), (binOp .eql 36 (.slice a n c) (.slice none n' c')).run Tryz.prog w = .ok (.bool a.isNone) w := fun w a n c n' c' => Lib.run_eql_slice_nil w _ _ a n c n' c' Tryz.underlying36
  obtain ⟨a, c, rfl⟩ := h.shape
  cases a with
  | none =>
    obtain rfl := h.nil
    clear h
    go_enter Tryz.func6, Tryz.ntmps6
    go_wp2_with fail
    go_ret
    exact ⟨_, rfl, Below.refl _ _, OwS.nil _ _ _⟩
  | some x =>
    have mk := run_make_row' (P := Tryz.prog) 36 38 _ _ Tryz.underlying36 infoR1 rfl .i64 .i64 L.length (by omega) (by omega)
    have HX := Lib.hid h
    have HL := Lib.hid hL
    clear h
    go_enter Tryz.func6, Tryz.ntmps6
    go_wp2_with fail
    go_loopw [4] (fun i wr => ∃ k : Nat, k ≤ L.length ∧ i = .int .i64 k ∧ Cloned 38 Ow1 (.slice none 0 0) w wr L k) (fun i _ => L.length - (intOf i).toNat)
    case atStart => exact ⟨0, Nat.zero_le _, rfl, Cloned.start _ _ _ _ _⟩
    case round =>
      obtain ⟨k, hk, rfl, hr⟩ := hrel
      by_cases hlt : k < L.length
      · obtain ⟨b, off, u, y, ha, hy, hc0, hu⟩ := HX.out.at hlt
        injection ha with ha
        subst ha
        obtain ⟨ua, uc, rfl⟩ := hu.shape
        have hc : wr.cell? ⟨b, off + k, none⟩ = some (.slice ua y.length uc) := by rw [hr.below.cell (p := ⟨b, off + k, none⟩) (lt_of_cell hc0)]; exact hc0
        obtain ⟨c1, c2, c3⟩ := hr.cell hlt
        have HU := Lib.hid (In1.stable _ _ _ _ hu hr.below)
        have HY := Lib.hid (List.mem_of_getElem? hy)
        have HYY := Lib.hid hy
        have HR := Lib.hid hr
        clear hr hc0 hy hu mk
        go_wp2_with fail
        refine (clone1 _ y _ (HL.out y HY.out) HU.out).mono ?_
        rintro e w6 ⟨v6, rfl, hb6, ho6⟩
        obtain ⟨a6, rfl⟩ := ho6.shape
        have HS := Lib.hid (HR.out.step Ow1.stable (fun _ _ _ _ _ _ h hr => Ow1.set h hr (by decide) _ _) hb6 _ y HYY.out ho6)
        have d1 : w6.cell? ⟨w.heap.size, k, none⟩ = some (.slice none 0 0) := by rw [hb6.cell (p := ⟨w.heap.size, k, none⟩) c3]; exact c1
        have d2 : w6.frozen? ⟨w.heap.size, k, none⟩ = false := by rw [hb6.frozen (p := ⟨w.heap.size, k, none⟩) c3]; exact c2
        have HB := Lib.hid hb6
        clear hb6 ho6 hc
        go_wp2_with fail
        go_roundw
        case rel => exact ⟨k + 1, by omega, by go_num, HS.out⟩
        case measure => simp [intOf]; omega
      · obtain rfl : k = L.length := by omega
        have HR := Lib.hid (hr.ends (Nat.le_refl _))
        have HB := Lib.hid hr.below
        clear hr mk
        go_wp2_with fail
        go_ret
        exact ⟨_, rfl, HB.out, HR.out⟩


set_option maxRecDepth 100000 in
set_option maxHeartbeats 1000000 in
theorem clone3 (v : Value) (L : List (List (List Int))) (w : World) (hl : L.length ≤ 1048576) (hL : ∀ x ∈ L, x.length ≤ 1048576) (hL2 : ∀ x ∈ L, ∀ y ∈ x, y.length ≤ 1048576) (h : In3 w v L) : Calls Tryz.prog 9 #[v] w (ClPost Ow3 w L) := by
  have qT : ∀ (w : World) (a : Option Addr) (n c n' c' : Nat), (binOp .eql 42 (.slice a n c) (.slice none n' c')).run Tryz.prog w = .ok (.bool a.isNone) w := fun w a n c n' c' => Lib.run_eql_slice_nil w _ _ a n c n' c' Tryz.underlying42
  obtain ⟨a, c, rfl⟩ := h.shape
  cases a with
  | none =>
    obtain rfl := h.nil
    clear h
    go_enter Tryz.func9, Tryz.ntmps9
    go_wp2_with fail
    go_ret
    exact ⟨_, rfl, Below.refl _ _, OwS.nil _ _ _⟩
  | some x =>
    have mk := run_make_row' (P := Tryz.prog) 42 36 _ _ Tryz.underlying42 infoR2 rfl .i64 .i64 L.length (by omega) (by omega)
    have HX := Lib.hid h
    have HL := Lib.hid hL
    have HL2 := Lib.hid hL2
    clear h
    go_enter Tryz.func9, Tryz.ntmps9
    go_wp2_with fail
    go_loopw [4] (fun i wr => ∃ k : Nat, k ≤ L.length ∧ i = .int .i64 k ∧ Cloned 36 Ow2 (.slice none 0 0) w wr L k) (fun i _ => L.length - (intOf i).toNat)
    case atStart => exact ⟨0, Nat.zero_le _, rfl, Cloned.start _ _ _ _ _⟩
    case round =>
      obtain ⟨k, hk, rfl, hr⟩ := hrel
      by_cases hlt : k < L.length
      · obtain ⟨b, off, u, y, ha, hy, hc0, hu⟩ := HX.out.at hlt
        injection ha with ha
        subst ha
        obtain ⟨ua, uc, rfl⟩ := hu.shape
        have hc : wr.cell? ⟨b, off + k, none⟩ = some (.slice ua y.length uc) := by rw [hr.below.cell (p := ⟨b, off + k, none⟩) (lt_of_cell hc0)]; exact hc0
        obtain ⟨c1, c2, c3⟩ := hr.cell hlt
        have HU := Lib.hid (In2.stable _ _ _ _ hu hr.below)
        have HY := Lib.hid (List.mem_of_getElem? hy)
        have HYY := Lib.hid hy
        have HR := Lib.hid hr
        clear hr hc0 hy hu mk
        go_wp2_with fail
        refine (clone2 _ y _ (HL.out y HY.out) (HL2.out y HY.out) HU.out).mono ?_
        rintro e w6 ⟨v6, rfl, hb6, ho6⟩
        obtain ⟨a6, rfl⟩ := ho6.shape
        have HS := Lib.hid (HR.out.step Ow2.stable (fun _ _ _ _ _ _ h hr => Ow2.set h hr (by decide) (by decide) _ _) hb6 _ y HYY.out ho6)
        have d1 : w6.cell? ⟨w.heap.size, k, none⟩ = some (.slice none 0 0) := by rw [hb6.cell (p := ⟨w.heap.size, k, none⟩) c3]; exact c1
        have d2 : w6.frozen? ⟨w.heap.size, k, none⟩ = false := by rw [hb6.frozen (p := ⟨w.heap.size, k, none⟩) c3]; exact c2
        have HB := Lib.hid hb6
        clear hb6 ho6 hc
        go_wp2_with fail
        go_roundw
        case rel => exact ⟨k + 1, by omega, by go_num, HS.out⟩
        case measure => simp [intOf]; omega
      · obtain rfl : k = L.length := by omega
        have HR := Lib.hid (hr.ends (Nat.le_refl _))
        have HB := Lib.hid hr.below
        clear hr mk
        go_wp2_with fail
        go_ret
        exact ⟨_, rfl, HB.out, HR.out⟩

end Go.Proofs.YtgnilcmhaobgeaaGreat

/- Floatify: the second run over what the first one left. -/
import Derived.Test.YtpjbeenakkfcfaaGreatFloH
namespace Go.Proofs.YtpjbeenakkfcfaaGreat
open Go.RowKit Go.Deep

/-- nothing that there was is written -/
def Again (w : World) (e : Ending) (w' : World) : Prop := e = .returned (.tuple #[]) ∧ Below w.heap.size w w'
def AgainAt (b off : Nat) (w : World) : Prop :=
  ∀ w1, Below w.heap.size w w1 → Calls Tryz.prog 16 #[.pointer (some ⟨b, off, none⟩), .agg nat0] w1 (Again w1)

set_option maxRecDepth 100000 in
set_option maxHeartbeats 1000000 in
theorem again_float (b off q : Nat) (c : Array Value) (t : TypeId) (w : World) (ha : w.heap[b]? = some (.cells c t (0, 0))) (hc : c[off]? = some (.iface 56 (.pointer (some ⟨q, 0, none⟩)))) :
    Calls Tryz.prog 16 #[.pointer (some ⟨b, off, none⟩), .agg nat0] w (Again w) := by
  have c0 : w.cell? ⟨b, off, none⟩ = some (.iface 56 (.pointer (some ⟨q, 0, none⟩))) := by rw [cell_of_block ha, hc]
  have l0 : b < w.heap.size := lt_of_heap ha
  have tInt := ta_miss Tryz.underlying53 zInt (show 56 ≠ 53 by decide) 41
  have tUna := ta_miss Tryz.underlying74 zUna (show 56 ≠ 74 by decide) 41
  have tBin := ta_miss Tryz.underlying50 zBin (show 56 ≠ 50 by decide) 41
  clear ha hc
  go_enter Tryz.func16, Tryz.ntmps16
  go_wp2_with fail
  go_end0
  exact ⟨rfl, (Below.refl _ w).alloc (Nat.le_refl _) _⟩

set_option maxRecDepth 100000 in
set_option maxHeartbeats 1000000 in
theorem again_stops (b off p : Nat) (c : Array Value) (t : TypeId) (op : ByteArray) (w : World) (ha : w.heap[b]? = some (.cells c t (0, 0))) (hc : c[off]? = some (.iface 50 (.pointer (some ⟨p, 0, none⟩)))) (c1 : w.cell? ⟨p, 11, none⟩ = some (.string op))
    (o1 : (op.toList == [43]) = false) (o2 : (op.toList == [45]) = false) (o3 : (op.toList == [42]) = false) :
    Calls Tryz.prog 16 #[.pointer (some ⟨b, off, none⟩), .agg nat0] w (Again w) := by
  have c0 : w.cell? ⟨b, off, none⟩ = some (.iface 50 (.pointer (some ⟨p, 0, none⟩))) := by rw [cell_of_block ha, hc]
  have l0 : b < w.heap.size := lt_of_heap ha
  have l1 : p < w.heap.size := lt_of_cell c1
  have tBin := ta_hit Tryz.underlying50 41
  have oBin := ta_one Tryz.underlying50 41
  have tInt := ta_miss Tryz.underlying53 zInt (show 50 ≠ 53 by decide) 41
  have tUna := ta_miss Tryz.underlying74 zUna (show 50 ≠ 74 by decide) 41
  clear ha hc
  go_enter Tryz.func16, Tryz.ntmps16
  go_wp2_with fail
  go_end0
  exact ⟨rfl, (Below.refl _ w).alloc (Nat.le_refl _) _⟩

theorem again_trans {w w2 : World} {o : Obj} (h : Below (w.alloc o).heap.size (w.alloc o) w2) : Below w.heap.size w w2 :=
  ((Below.refl _ w).alloc (Nat.le_refl _) o).trans (h.mono (by rw [alloc_size]; omega))

set_option maxRecDepth 100000 in
set_option maxHeartbeats 1000000 in
theorem again_una (b off p : Nat) (c : Array Value) (t : TypeId) (w : World) (ha : w.heap[b]? = some (.cells c t (0, 0))) (hc : c[off]? = some (.iface 74 (.pointer (some ⟨p, 0, none⟩)))) (ih : AgainAt p 12 w) :
    Calls Tryz.prog 16 #[.pointer (some ⟨b, off, none⟩), .agg nat0] w (Again w) := by
  have c0 : w.cell? ⟨b, off, none⟩ = some (.iface 74 (.pointer (some ⟨p, 0, none⟩))) := by rw [cell_of_block ha, hc]
  have l0 : b < w.heap.size := lt_of_heap ha
  have tUna := ta_hit Tryz.underlying74 41
  have oUna := ta_one Tryz.underlying74 41
  have tInt := ta_miss Tryz.underlying53 zInt (show 74 ≠ 53 by decide) 41
  have HC := Lib.hid (ih (w.alloc (.cells nat0 67)).drew (((Below.refl _ w).alloc (Nat.le_refl _) _).drew))
  clear ha hc ih
  go_enter Tryz.func16, Tryz.ntmps16
  go_wp2_with fail
  go_region_with (go_at_call 16; refine HC.out.mono ?_; rintro e w2 hp; obtain ⟨rfl, hw⟩ := hp)
  all_goals
    have hp := Lib.hid (again_trans (show Below (w.alloc (.cells nat0 67)).heap.size (w.alloc (.cells nat0 67)) w2 from ⟨hw.os, hw.tape, hw.output, hw.size, hw.block⟩))
    clear hw
    go_end0
    exact ⟨rfl, hp.out⟩

set_option maxRecDepth 100000 in
set_option maxHeartbeats 2000000 in
theorem again_bin (b off p : Nat) (c : Array Value) (t : TypeId) (op : ByteArray) (b1 b2 b3 : Bool) (h1 : (op.toList == [43]) = b1) (h2 : (op.toList == [45]) = b2) (h3' : (op.toList == [42]) = b3)
    (hb3 : b1 = true ∨ (b1 = false ∧ b2 = true) ∨ (b1 = false ∧ b2 = false ∧ b3 = true)) (w : World) (ha : w.heap[b]? = some (.cells c t (0, 0))) (hc : c[off]? = some (.iface 50 (.pointer (some ⟨p, 0, none⟩)))) (c1 : w.cell? ⟨p, 11, none⟩ = some (.string op)) (ih : AgainAt p 12 w) (ih2 : AgainAt p 13 w) :
    Calls Tryz.prog 16 #[.pointer (some ⟨b, off, none⟩), .agg nat0] w (Again w) := by
  have c0 : w.cell? ⟨b, off, none⟩ = some (.iface 50 (.pointer (some ⟨p, 0, none⟩))) := by rw [cell_of_block ha, hc]
  have l0 : b < w.heap.size := lt_of_heap ha
  have l1 : p < w.heap.size := lt_of_cell c1
  have tBin := ta_hit Tryz.underlying50 41
  have oBin := ta_one Tryz.underlying50 41
  have tInt := ta_miss Tryz.underlying53 zInt (show 50 ≠ 53 by decide) 41
  have tUna := ta_miss Tryz.underlying74 zUna (show 50 ≠ 74 by decide) 41
  have HC := Lib.hid (ih (w.alloc (.cells nat0 67)).drew (((Below.refl _ w).alloc (Nat.le_refl _) _).drew))
  have H2 := Lib.hid ih2
  clear ha hc ih ih2
  go_enter Tryz.func16, Tryz.ntmps16
  rcases hb3 with rfl | ⟨rfl, rfl⟩ | ⟨rfl, rfl, rfl⟩
  all_goals
    go_wp2_with fail
    go_region_with (go_at_call 16; refine HC.out.mono ?_; rintro e w2 hp; obtain ⟨rfl, hw⟩ := hp)
    all_goals
      have hw' : Below (w.alloc (.cells nat0 67)).heap.size (w.alloc (.cells nat0 67)) w2 := ⟨hw.os, hw.tape, hw.output, hw.size, hw.block⟩
      have hbox := below_keep hw' (alloc_new w (.cells nat0 67))
      have x0 : w2.cell? ⟨w.heap.size, 0, none⟩ = some .nilIface := by rw [cell_of_block hbox]; rfl
      have x1 : w2.cell? ⟨w.heap.size, 1, none⟩ = some (.int .u64 0) := by rw [cell_of_block hbox]; rfl
      have x2 : w2.cell? ⟨w.heap.size, 2, none⟩ = some (.pointer none) := by rw [cell_of_block hbox]; rfl
      have x3 : w2.cell? ⟨w.heap.size, 3, none⟩ = some (.pointer none) := by rw [cell_of_block hbox]; rfl
      have x4 : w2.cell? ⟨w.heap.size, 4, none⟩ = some (.bool false) := by rw [cell_of_block hbox]; rfl
      have x5 : w2.cell? ⟨w.heap.size, 5, none⟩ = some (.bool false) := by rw [cell_of_block hbox]; rfl
      have x6 : w2.cell? ⟨w.heap.size, 6, none⟩ = some (.bool false) := by rw [cell_of_block hbox]; rfl
      have x7 : w2.cell? ⟨w.heap.size, 7, none⟩ = some (.bool false) := by rw [cell_of_block hbox]; rfl
      have x8 : w2.cell? ⟨w.heap.size, 8, none⟩ = some (.bool false) := by rw [cell_of_block hbox]; rfl
      have hww := again_trans hw'
      have HT := Lib.hid (H2.out w2.drew hww.drew)
      have HW := Lib.hid hww
      clear hw hw' hbox hww
      go_wp2_with fail
      go_region_with (go_at_call 16; refine HT.out.mono ?_; rintro e w3 hp; obtain ⟨rfl, hw3⟩ := hp)
      all_goals
        have hp := Lib.hid (HW.out.trans ((show Below w2.heap.size w2 w3 from ⟨hw3.os, hw3.tape, hw3.output, hw3.size, hw3.block⟩).mono HW.out.size))
        clear hw3
        go_end0
        exact ⟨rfl, hp.out⟩

theorem Done.below {code nb lb fb : Nat → Nat} {val : Nat → Int} {w w' : World} {n : Nat} (h : Done code nb lb val w n fb) (hb : Below w.heap.size w w') : Done code nb lb val w' n fb := by
  refine ⟨fun i hi => ?_, fun i hi hh => below_keep hb (h.leaf i hi hh), fun i hi hh hc => below_keep hb (h.flo i hi hh hc)⟩
  rcases h.level i hi with ⟨x, y⟩ | ⟨x, y⟩
  · exact Or.inl ⟨x, below_keep hb y⟩
  · exact Or.inr ⟨x, below_keep hb y⟩
theorem cv_down {code : Nat → Nat} {n j : Nat} (h : cv code n (j + 1) = true) (hc : code j ≤ 3) : cv code n j = true := by
  simp only [cv] at h ⊢
  refine decide_eq_true fun k hk hjk => ?_
  by_cases e : k = j
  · subst e; exact hc
  · exact of_decide_eq_true h k hk (by omega)

theorem again_all {code nb lb fb : Nat → Nat} {val : Nat → Int} {n : Nat} : ∀ j, j ≤ n → cv code n j = true → ∀ (w : World) (b off : Nat) (c : Array Value) (t : TypeId), Done code nb lb val w n fb →
    w.heap[b]? = some (.cells c t (0, 0)) → c[off]? = some (if j = 0 then (.iface 56 (.pointer (some ⟨fb 0, 0, none⟩))) else nodeV code nb lb j) → Calls Tryz.prog 16 #[.pointer (some ⟨b, off, none⟩), .agg nat0] w (Again w) := by
  intro j
  induction j with
  | zero => exact fun _ _ w b off c t _ ha hc => again_float b off (fb 0) c t w ha (by simpa using hc)
  | succ j ih =>
    intro hj hcv w b off c t hd ha hc
    rw [if_neg (by omega)] at hc
    have hlev := hd.level j (by omega)
    by_cases h0 : code j = 0
    · have hn : nodeV code nb lb (j + 1) = (.iface 74 (.pointer (some ⟨nb j, 0, none⟩))) := by simp [nodeV, h0]
      rw [hn] at hc
      have hcj := cv_down hcv (by omega)
      have hl := (hlev.resolve_right (fun x => x.1 h0)).2
      refine again_una b off (nb j) c t w ha hc fun w1 hb1 => ih (by omega) hcj w1 (nb j) 12 _ _ (hd.below hb1) (below_keep hb1 hl) ?_
      by_cases e : j = 0
      · subst e; simp [nd0, slotV, hcj]
      · simp [nd0, e]
    · have hn : nodeV code nb lb (j + 1) = (.iface 50 (.pointer (some ⟨nb j, 0, none⟩))) := by simp [nodeV, h0]
      rw [hn] at hc
      have hl := (hlev.resolve_left (fun x => h0 x.1)).2
      by_cases h3 : code j ≤ 3
      · have hcj := cv_down hcv h3
        have i1 : AgainAt (nb j) 12 w := fun w1 hb1 => ih (by omega) hcj w1 (nb j) 12 _ _ (hd.below hb1) (below_keep hb1 hl) (by
          by_cases e : j = 0
          · subst e; simp [nd0, slotV, hcj]
          · simp [nd0, e])
        have i2 : AgainAt (nb j) 13 w := fun w1 hb1 => again_float (nb j) 13 (fb (j + 1)) _ _ w1 (below_keep hb1 hl) (by simp [nd0, slotV, hcj])
        have c1 : w.cell? ⟨nb j, 11, none⟩ = some (.string (opName (code j))) := by rw [cell_of_block hl]; rfl
        rcases (by omega : code j = 1 ∨ code j = 2 ∨ code j = 3) with h | h | h
        · rw [h] at c1; exact again_bin b off (nb j) c t ⟨#[43]⟩ true _ _ (by decide +kernel) rfl rfl (Or.inl rfl) w ha hc c1 i1 i2
        · rw [h] at c1; exact again_bin b off (nb j) c t ⟨#[45]⟩ false true _ (by decide +kernel) (by decide +kernel) rfl (Or.inr (Or.inl ⟨rfl, rfl⟩)) w ha hc c1 i1 i2
        · rw [h] at c1; exact again_bin b off (nb j) c t ⟨#[42]⟩ false false true (by decide +kernel) (by decide +kernel) (by decide +kernel) (Or.inr (Or.inr ⟨rfl, rfl, rfl⟩)) w ha hc c1 i1 i2
      · have c1 : w.cell? ⟨nb j, 11, none⟩ = some (.string (opName (code j))) := by rw [cell_of_block hl]; rfl
        obtain ⟨o1, o2, o3⟩ := opName_big (code j) (by omega)
        exact again_stops b off (nb j) c t _ w ha hc c1 o1 o2 o3
end Go.Proofs.YtpjbeenakkfcfaaGreat

/- FnFloatifyIdempotent: the walk: true at every input. -/
import Derived.Test.YtpjbeenakkfcfaaGreatFloR
import Derived.Deep.QuietTactic
import Derived.BigQuiet
import Derived.Deep.DeepCutAuto
import Derived.IntWalk
namespace Go.Proofs.YtpjbeenakkfcfaaGreat
open Go.RowKit Go.Deep

theorem Below.trans2 {a b c : World} {B : Nat} (h : Below B a b) (k : Below b.heap.size b c) (hB : B ≤ a.heap.size) : Below B a c := h.trans (k.mono (by have := h.size; omega))
theorem quiet_left {P : Program} {f : FuncId} {args : Array Value} {w : World} {n : Nat} {v : Value}
    (h : Calls P f args (w.drewN n) fun e w' => e = .returned v ∧ w.drewN n = w') : Calls P f args (w.drewN n) fun e w'' => e = .returned v ∧ ∃ m, w'' = w.drewN m :=
  h.mono fun _ _ ⟨he, hm⟩ => ⟨he, n, hm.symm⟩
theorem infoPFlo : (Tryz.prog.info? 56).map (fun i => (i.zero, i.size, i.bytes)) = some (some (.pointer none), 1, 8) := by kernel_rfl
theorem infoF64 : (Tryz.prog.info? 27).map (fun i => (i.zero, i.size, i.bytes)) = some (some (.float .f64 0), 1, 8) := by kernel_rfl
theorem storeF (a : Addr) (x : Nat) (w : World) (m : Mode) : (store a (.float .f64 x) m).run Tryz.prog w = stored Tryz.prog w a (.float .f64 x) m := run_store _ w a _ m rfl
theorem neqNilF (w : World) : (binOp .neq 56 (.pointer none) (.pointer none)).run Tryz.prog w = .ok (.bool false) w := by kernel_rfl
theorem neqNilI (w : World) : (binOp .neq 53 (.pointer none) (.pointer none)).run Tryz.prog w = .ok (.bool false) w := by kernel_rfl

set_option maxRecDepth 100000 in
set_option maxHeartbeats 8000000 in
theorem lawI_main (a0 : Option Addr) (n c0 : Nat) (z : Nat → Int) (a1 : Option Addr) (m c1 : Nat) (val : Nat → Int) (w : World) (w0 : IsRowOf (fun x => .int .u8 x) (fun x => (Lit.int .u8 x).wf = true) w a0 n c0 z) (w1 : IsRowOf (fun x => .int .i64 x) (fun x => (Lit.int .i64 x).wf = true) w a1 m c1 val)
    (hn : n ≤ 4096) (hm : n + 1 ≤ m) (hm2 : m ≤ 4097) :
    Calls Tryz.prog 4 #[.slice a0 n c0, .slice a1 m c1] w (Yes w) := by
  have mk1 : ∀ w : World, (Instr.makeSlice 54 (.int .i64 ((n : Int) + 1)) (.int .i64 ((n : Int) + 1))).run Tryz.prog w = .ok (.slice (some ⟨w.heap.size, 0, none⟩) (n + 1) (n + 1)) (w.alloc (.cells (madeCells #[.pointer none] (n + 1)) 56)) :=
    run_make_row' (P := Tryz.prog) 54 56 _ _ Tryz.underlying54 infoPFlo rfl .i64 .i64 (n + 1) (by omega) (by omega)
  have mk2 : ∀ w : World, (Instr.makeSlice 42 (.int .i64 ((n : Int) + 1)) (.int .i64 ((n : Int) + 1))).run Tryz.prog w = .ok (.slice (some ⟨w.heap.size, 0, none⟩) (n + 1) (n + 1)) (w.alloc (.cells (madeCells #[.pointer none] (n + 1)) 53)) :=
    run_make_row' (P := Tryz.prog) 42 53 _ _ Tryz.underlying42 infoPInt rfl .i64 .i64 (n + 1) (by omega) (by omega)
  have mk3 : ∀ w : World, (Instr.makeSlice 55 (.int .i64 ((n : Int) + 1)) (.int .i64 ((n : Int) + 1))).run Tryz.prog w = .ok (.slice (some ⟨w.heap.size, 0, none⟩) (n + 1) (n + 1)) (w.alloc (.cells (madeCells #[.float .f64 0] (n + 1)) 27)) :=
    run_make_row' (P := Tryz.prog) 55 27 _ _ Tryz.underlying55 infoF64 rfl .i64 .i64 (n + 1) (by omega) (by omega)
  have H0 := Lib.hid w0
  have H1 := Lib.hid w1
  clear w0 w1
  go_enter Tryz.func4, Tryz.ntmps4
  go_wp2_with fail
  refine (bytesI _ _ _ _ _ _ _ hn hm2).mono ?_
  rintro e w' ⟨rfl, rfl⟩
  go_wp2_with fail
  refine (cloneBytes a0 n c0 z _ (by omega) H0.out).mono ?_
  rintro e wa h
  obtain ⟨ao, rfl, hba, hoa⟩ := h
  have HBA := Lib.hid hba
  have HOA := Lib.hid hoa
  clear hba hoa
  go_wp2_with fail
  refine (cloneInts a1 m c1 val _ (by omega) (H1.out.below HBA.out)).mono ?_
  rintro e wb h
  obtain ⟨bo, rfl, hbb, hob⟩ := h
  obtain ⟨vb, hbo, hvb⟩ : ∃ vb, bo = some ⟨vb, 0, none⟩ ∧ wb.rowIs vb 3 m (fun i => .int .i64 (val i)) := by
    rcases hob with ⟨_, h0⟩ | h
    · omega
    · exact h
  subst hbo
  have HOB := Lib.hid (HOA.out.keeps (Keeps.below hbb))
  have HB := Lib.hid (Below.trans2 HBA.out hbb (Nat.le_refl _))
  have HV := Lib.hid hvb
  clear hbb hob hvb
  go_wp2_with fail
  refine (build_any ao vb n m hn hm hm2 z val _ H0.out.u8 HOB.out HV.out).mono ?_
  rintro e w3 h
  obtain ⟨nb, lb, lv, un, bi, T, p, rfl, hr, ht⟩ := h
  have HR := Lib.hid hr
  have HT := Lib.hid ht
  clear hr ht
  go_wp2_with fail
  refine (floatify_first HB.out HT.out HR.out HV.out HOB.out).mono ?_
  rintro e w5 h
  obtain ⟨rfl, fb, T', p', hf⟩ := h
  have HF := Lib.hid hf
  clear hf
  go_wp2_with fail
  go_loopw [10] (fun j wr => ∃ k : Nat, k ≤ n + 1 ∧ j = .int .i64 k ∧ Below w5.heap.size w5 wr ∧ Rows3 (codeOf z) lb fb val wr w5.heap.size n k) (fun j _ => n + 1 - (intOf j).toNat)
  case atStart => exact ⟨0, Nat.zero_le _, rfl, (((Below.refl _ w5).alloc (Nat.le_refl _) _).alloc (by simp only [alloc_size]; omega) _).alloc (by simp only [alloc_size]; omega) _, Rows3.start _ _ _ _ _ _⟩
  case round =>
    obtain ⟨k, hk, rfl, hb, h3⟩ := hrel
    by_cases hkn : k ≤ n
    · have hf := HF.out.move hb
      have r0 : wr.cell? ⟨w3.heap.size, 0, none⟩ = some (.iface T' (.pointer (some ⟨p', 0, none⟩))) := by rw [cell_of_block hf.root]; rfl
      have r1 : wr.cell? ⟨w3.heap.size, 1, none⟩ = some (.slice (some ⟨lv, 0, none⟩) (n + 1) (n + 1)) := by rw [cell_of_block hf.root]; rfl
      have r2 : wr.cell? ⟨w3.heap.size, 2, none⟩ = some (.slice (some ⟨un, 0, none⟩) n n) := by rw [cell_of_block hf.root]; rfl
      have r3 : wr.cell? ⟨w3.heap.size, 3, none⟩ = some (.slice (some ⟨bi, 0, none⟩) n n) := by rw [cell_of_block hf.root]; rfl
      have HFF := Lib.hid hf
      have HBB := Lib.hid hb
      have H3 := Lib.hid h3
      clear hf hb h3 mk1 mk2 mk3
      go_wp2_with fail
      refine (HFF.out.slot hn k hkn).mono ?_
      rintro e w6 ⟨rfl, hb6⟩
      have HF6 := Lib.hid (HFF.out.move hb6)
      have h36 := H3.out.below hb6
      have c7 : w6.cell? ⟨w5.heap.size, k, none⟩ = some (.pointer none) := by rw [h36.fl.cell (by omega)]; exact congrArg some (if_neg (by omega))
      have c8 : w6.cell? ⟨w5.heap.size + 1, k, none⟩ = some (.pointer none) := by rw [h36.il.cell (by omega)]; exact congrArg some (if_neg (by omega))
      have c9 : w6.cell? ⟨w5.heap.size + 1 + 1, k, none⟩ = some (.float .f64 0) := by rw [h36.gl.cell (by omega)]; exact congrArg some (if_neg (by omega))
      have f7 := h36.fl.frozen k
      have f8 := h36.il.frozen k
      have f9 := h36.gl.frozen k
      have HB6 := Lib.hid (Below.trans2 HBB.out hb6 (Nat.le_refl _))
      have H36 := Lib.hid h36
      clear hb6 h36 r0 r1 r2 r3
      rcases kind_cases (codeOf z) lb fb n k with ⟨h0, hs⟩ | ⟨h0, hh, hcv, hs⟩ | ⟨h0, hs⟩
      · rw [hs]
        have HK := Lib.hid h0
        clear h0 hs
        go_wp2_with fail
        go_roundw
        case rel => exact ⟨k + 1, by omega, by go_num, HB6.out, H36.out.step0 HK.out⟩
        case measure => simp [intOf]; omega
      · rw [hs]
        have cf : w6.cell? ⟨fb k, 11, none⟩ = some (.float .f64 (floatOfInt .f64 (val k))) := by rw [cell_of_block (HF6.out.done.flo k hkn hh hcv)]; rfl
        have HS1 := Lib.hid (H36.out.step1 h0)
        have sF := storeF
        have hlt := lt_of_heap (HF.out.done.flo k hkn hh hcv)
        clear h0 hs hh hcv
        go_wp2_with (first | (go_at_call 13; refine (asFloat_flo _ _).mono ?_; rintro e w' ⟨rfl, rfl⟩) | (go_at_call 14; refine (asInt_flo _ _).mono ?_; rintro e w' ⟨rfl, rfl⟩))
        go_roundw
        case rel => exact ⟨k + 1, by omega, by go_num, ((HB6.out.setCell (Nat.le_refl _) _).setCell (by simp) _).setCell (by simp; omega) _, HS1.out⟩
        case measure => simp [intOf]; omega
      · rw [hs]
        have HS2 := Lib.hid (H36.out.step2 h0)
        clear h0 hs
        go_wp2_with (first | (go_at_call 13; refine (asFloat_int _ _).mono ?_; rintro e w' ⟨rfl, rfl⟩) | (go_at_call 14; refine (asInt_int _ _).mono ?_; rintro e w' ⟨rfl, rfl⟩))
        go_roundw
        case rel => exact ⟨k + 1, by omega, by go_num, (HB6.out.setCell (Nat.le_refl _) _).setCell (by simp) _, HS2.out⟩
        case measure => simp [intOf]; omega
    · obtain rfl : k = n + 1 := by omega
      have HFF := Lib.hid (HF.out.move hb)
      have HBB := Lib.hid hb
      have H3 := Lib.hid h3
      clear hb h3 mk1 mk2 mk3
      go_wp2_with fail
      refine HFF.out.again.mono ?_
      rintro e w6 ⟨rfl, hb6⟩
      have HB6 := Lib.hid (Below.trans2 HBB.out hb6 (Nat.le_refl _))
      have H36 := Lib.hid (H3.out.below hb6)
      clear hb6
      go_wp2_with fail
      go_loopw [12] (fun j wx => ∃ k : Nat, k ≤ n + 1 ∧ j = .int .i64 k ∧ Below w5.heap.size w5 wx ∧ Rows3 (codeOf z) lb fb val wx w5.heap.size n (n + 1)) (fun j _ => n + 1 - (intOf j).toNat)
      case atStart => exact ⟨0, Nat.zero_le _, rfl, HB6.out, H36.out⟩
      case round =>
        obtain ⟨k, hk, rfl, hb, h3⟩ := hrel
        by_cases hkn : k ≤ n
        · have hf := HF.out.move hb
          have r0 : wr.cell? ⟨w3.heap.size, 0, none⟩ = some (.iface T' (.pointer (some ⟨p', 0, none⟩))) := by rw [cell_of_block hf.root]; rfl
          have r1 : wr.cell? ⟨w3.heap.size, 1, none⟩ = some (.slice (some ⟨lv, 0, none⟩) (n + 1) (n + 1)) := by rw [cell_of_block hf.root]; rfl
          have r2 : wr.cell? ⟨w3.heap.size, 2, none⟩ = some (.slice (some ⟨un, 0, none⟩) n n) := by rw [cell_of_block hf.root]; rfl
          have r3 : wr.cell? ⟨w3.heap.size, 3, none⟩ = some (.slice (some ⟨bi, 0, none⟩) n n) := by rw [cell_of_block hf.root]; rfl
          have HFX := Lib.hid hf
          have HBX := Lib.hid hb
          have H3X := Lib.hid h3
          clear hf hb h3
          go_wp2_with fail
          refine (HFX.out.slot hn k hkn).mono ?_
          rintro e w7 ⟨rfl, hb7⟩
          have HF7 := Lib.hid (HFX.out.move hb7)
          have h37 := H3X.out.below hb7
          have c7 : w7.cell? ⟨w5.heap.size, k, none⟩ = some (flF (codeOf z) fb n k) := by rw [h37.fl.cell (by omega)]; exact congrArg some (if_pos (by omega))
          have c8 : w7.cell? ⟨w5.heap.size + 1, k, none⟩ = some (inF (codeOf z) lb n k) := by rw [h37.il.cell (by omega)]; exact congrArg some (if_pos (by omega))
          have c9 : w7.cell? ⟨w5.heap.size + 1 + 1, k, none⟩ = some (fvF (codeOf z) val n k) := by rw [h37.gl.cell (by omega)]; exact congrArg some (if_pos (by omega))
          have HB7 := Lib.hid (Below.trans2 HBX.out hb7 (Nat.le_refl _))
          have H37 := Lib.hid h37
          clear hb7 h37 r0 r1 r2 r3
          have i1 : (k : Int) < (n : Int) + 1 := by omega
          have i2 : k < n + 1 := by omega
          rcases kind_cases (codeOf z) lb fb n k with ⟨h0, hs⟩ | ⟨h0, hh, hcv, hs⟩ | ⟨h0, hs⟩
          · rw [hs]
            clear h0 hs c7 c8 c9
            go_wp2_with fail
            go_roundw
            case rel => exact ⟨k + 1, by omega, by go_num, HB7.out, H37.out⟩
            case measure => simp [intOf]; omega
          · rw [hs]
            simp only [flF, inF, fvF, h0] at c7 c8 c9
            have cf : w7.cell? ⟨fb k, 11, none⟩ = some (.float .f64 (floatOfInt .f64 (val k))) := by rw [cell_of_block (HF7.out.done.flo k hkn hh hcv)]; rfl
            have nF := neq_ptr_same Tryz.underlying56 sFlo
            have nI := neqNilI
            have eF : (FloatKind.f64.format.order (floatOfInt .f64 (val k)) (floatOfInt .f64 (val k)) != some Ordering.eq) = false := by rw [bne, ofInt_self]; rfl
            clear h0 hs hh hcv
            go_wp2_with fail
            go_quiet ((first | (go_at_call 13; exact quiet_left (asFloat_flo _ _)) | (go_at_call 14; exact quiet_left (asInt_flo _ _))))
            go_wp2_with fail
            go_quiet (fail)
            go_wp2_with fail
            go_roundw
            case rel => exact ⟨k + 1, by omega, by go_num, ⟨HB7.out.os, HB7.out.tape, HB7.out.output, HB7.out.size, HB7.out.block⟩, ⟨H37.out.fl, H37.out.il, H37.out.gl⟩⟩
            case measure => simp [intOf]; omega
          · rw [hs]
            simp only [flF, inF, fvF, h0] at c7 c8 c9
            have nI := neq_ptr_same Tryz.underlying53 sInt
            have nF := neqNilF
            clear h0 hs
            go_wp2_with fail
            go_quiet ((first | (go_at_call 13; exact quiet_left (asFloat_int _ _)) | (go_at_call 14; exact quiet_left (asInt_int _ _))))
            go_wp2_with fail
            go_quiet (fail)
            go_wp2_with fail
            go_roundw
            case rel => exact ⟨k + 1, by omega, by go_num, ⟨HB7.out.os, HB7.out.tape, HB7.out.output, HB7.out.size, HB7.out.block⟩, ⟨H37.out.fl, H37.out.il, H37.out.gl⟩⟩
            case measure => simp [intOf]; omega
        · have HBX := Lib.hid hb
          clear hb h3
          go_wp2_with fail
          go_ret
          exact ⟨rfl, (HF.out.move HBX.out).below⟩

set_option maxRecDepth 100000 in
set_option maxHeartbeats 4000000 in
/-- THE WALK: at every input. -/
theorem lawI (a0 : Option Addr) (l0 c0 : Nat) (z : Nat → Int) (a1 : Option Addr) (l1 c1 : Nat) (val : Nat → Int) (w : World) (w0 : IsRowOf (fun x => .int .u8 x) (fun x => (Lit.int .u8 x).wf = true) w a0 l0 c0 z) (w1 : IsRowOf (fun x => .int .i64 x) (fun x => (Lit.int .i64 x).wf = true) w a1 l1 c1 val) :
    Calls Tryz.prog 4 #[.slice a0 l0 c0, .slice a1 l1 c1] w fun e w' => e = .returned (.bool true) ∧ Below w.heap.size w w' := by
  by_cases hok : l0 ≤ 4096 ∧ l0 + 1 ≤ l1 ∧ l1 ≤ 4097
  · exact lawI_main a0 l0 c0 z a1 l1 c1 val w w0 w1 hok.1 hok.2.1 hok.2.2
  · have m1 : l0 ≤ maxLen := by rcases w0 with ⟨_, h, _⟩ | ⟨_, _, h1, h2, _⟩ <;> omega
    have m2 : l1 ≤ maxLen := by rcases w1 with ⟨_, h, _⟩ | ⟨_, _, h1, h2, _⟩ <;> omega
    have h1 := m1
    have h2 := m2
    unfold maxLen at h1 h2
    have HN := Lib.hid hok
    clear hok w0 w1
    go_enter Tryz.func4, Tryz.ntmps4
    go_wp2_with fail
    refine (bytesI_any _ _ _ _ _ _ _ m1 m2).mono ?_
    rintro e w' ⟨b, rfl, rfl⟩
    cases b
    · go_wp2_with fail
      go_ret
      exact ⟨rfl, Below.refl _ _⟩
    · go_wp2_with fail
      all_goals first
        | (go_ret; exact ⟨rfl, Below.refl _ _⟩)
        | (exfalso; refine HN.out ?_; refine ⟨by omega, by omega, by omega⟩)
end Go.Proofs.YtpjbeenakkfcfaaGreat

/- FnFloatifySpineTable: the walk: true at every input. -/
import Derived.Test.YtpjbeenakkfcfaaGreatFloP
import Derived.Deep.QuietTactic
import Derived.BigQuiet
import Derived.Deep.DeepCutAuto
import Derived.Deep.RegionHeld3
import Derived.IntWalk
namespace Go.Proofs.YtpjbeenakkfcfaaGreat
open Go.RowKit Go.Deep

theorem Below.trans' {a b c : World} {B : Nat} (h : Below B a b) (k : Below b.heap.size b c) (hB : B ≤ a.heap.size) : Below B a c := h.trans (k.mono (by have := h.size; omega))

set_option maxRecDepth 100000 in
set_option maxHeartbeats 8000000 in
theorem lawT_main (a0 : Option Addr) (n c0 : Nat) (z : Nat → Int) (a1 : Option Addr) (m c1 : Nat) (val : Nat → Int) (w : World) (w0 : IsRowOf (fun x => .int .u8 x) (fun x => (Lit.int .u8 x).wf = true) w a0 n c0 z) (w1 : IsRowOf (fun x => .int .i64 x) (fun x => (Lit.int .i64 x).wf = true) w a1 m c1 val)
    (hn : n ≤ 4096) (hm : n + 1 ≤ m) (hm2 : m ≤ 4097) :
    Calls Tryz.prog 3 #[.slice a0 n c0, .slice a1 m c1] w (Yes w) := by
  have H0 := Lib.hid w0
  have H1 := Lib.hid w1
  clear w0 w1
  go_enter Tryz.func3, Tryz.ntmps3
  go_wp2_with fail
  refine (bytesT _ _ _ _ _ _ _ hn hm2).mono ?_
  rintro e w' ⟨rfl, rfl⟩
  go_wp2_with fail
  refine (cloneBytes a0 n c0 z _ (by omega) H0.out).mono ?_
  rintro e wa h
  obtain ⟨ao, rfl, hba, hoa⟩ := h
  have HBA := Lib.hid hba
  have HOA := Lib.hid hoa
  clear hba hoa
  go_wp2_with fail
  refine (cloneInts a1 m c1 val _ (by omega) (H1.out.below HBA.out)).mono ?_
  rintro e wb h
  obtain ⟨bo, rfl, hbb, hob⟩ := h
  obtain ⟨vb, hbo, hvb⟩ : ∃ vb, bo = some ⟨vb, 0, none⟩ ∧ wb.rowIs vb 3 m (fun i => .int .i64 (val i)) := by
    rcases hob with ⟨_, h0⟩ | h
    · omega
    · exact h
  subst hbo
  have HOB := Lib.hid (HOA.out.keeps (Keeps.below hbb))
  have HB := Lib.hid (Below.trans' HBA.out hbb (Nat.le_refl _))
  have HV := Lib.hid hvb
  clear hbb hob hvb
  go_wp2_with fail
  refine (build_any ao vb n m hn hm hm2 z val _ H0.out.u8 HOB.out HV.out).mono ?_
  rintro e w3 h
  obtain ⟨nb, lb, lv, un, bi, T, p, rfl, hr, ht⟩ := h
  have HR := Lib.hid hr
  have HT := Lib.hid ht
  clear hr ht
  go_wp2_with fail
  refine (floatify_first HB.out HT.out HR.out HV.out HOB.out).mono ?_
  rintro e w5 h
  obtain ⟨rfl, fb, T', p', hf⟩ := h
  have HF := Lib.hid hf
  clear hf
  go_wp2_with fail
  go_loopw [7, 8] (fun ok j wr => ∃ (i : Nat) (x : Int), i ≤ n ∧ x = (i : Int) - 1 ∧ j = .int .i64 x ∧ ok = .bool (cv (codeOf z) n i) ∧ Fin (codeOf z) nb lb fb val w wr w3.heap.size lv un bi vb n m T' p' ao z) (fun _ j _ => (intOf j + 1).toNat)
  case atStart => exact ⟨n, _, Nat.le_refl _, rfl, rfl, by rw [cv_end], HF.out⟩
  case round =>
    obtain ⟨i, x, hi, hx, rfl, rfl, hf⟩ := hrel
    by_cases h0 : 0 < i
    · obtain ⟨k, rfl⟩ : ∃ k, i = k + 1 := ⟨i - 1, by omega⟩
      obtain rfl : x = (k : Int) := by omega
      have hkn : k < n := by omega
      obtain ⟨cb, hao, hrow⟩ : ∃ cb, ao = some ⟨cb, 0, none⟩ ∧ wr.rowIs cb 5 n (fun i => .int .u8 (z i)) := by
        rcases hf.codes with ⟨_, h0⟩ | h
        · omega
        · exact h
      subst hao
      have cz : wr.cell? ⟨cb, k, none⟩ = some (.int .u8 (z k)) := hrow.cell hkn
      have hz := H0.out.u8 k hkn
      have hcv := cv_and hkn hz.1
      have r0 : wr.cell? ⟨w3.heap.size, 0, none⟩ = some (.iface T' (.pointer (some ⟨p', 0, none⟩))) := by rw [cell_of_block hf.root]; rfl
      have r1 : wr.cell? ⟨w3.heap.size, 1, none⟩ = some (.slice (some ⟨lv, 0, none⟩) (n + 1) (n + 1)) := by rw [cell_of_block hf.root]; rfl
      have r2 : wr.cell? ⟨w3.heap.size, 2, none⟩ = some (.slice (some ⟨un, 0, none⟩) n n) := by rw [cell_of_block hf.root]; rfl
      have r3 : wr.cell? ⟨w3.heap.size, 3, none⟩ = some (.slice (some ⟨bi, 0, none⟩) n n) := by rw [cell_of_block hf.root]; rfl
      have HFF := Lib.hid hf
      have HCV := Lib.hid hcv
      clear hf hrow hcv hx hi h0
      go_upto_region 16 with fail
      go_cut [7] (fun s7 wx => s7 = .bool (cv (codeOf z) n k) ∧ wr = wx)
      case first =>
        generalize cv (codeOf z) n (k + 1) = c2 at HCV ⊢
        cases c2
        all_goals
          go_wp2_with fail
          go_meet
          exact ⟨by rw [HCV.out] <;> rfl, rfl⟩
      case rest =>
        obtain ⟨rfl, rfl⟩ := hcut
        by_cases hc0 : codeOf z k = 0
        · have cb2 : wr.cell? ⟨bi, k, none⟩ = some (.pointer none) := by rw [HFF.out.bis.cell hkn]; exact congrArg some (if_neg (fun q => q.2 hc0))
          clear hc0
          go_wp2_with fail
          go_roundw
          case rel => exact ⟨k, (k : Int) - 1, by omega, rfl, by go_num, rfl, HFF.out⟩
          case measure => simp [intOf]
        · have cb2 : wr.cell? ⟨bi, k, none⟩ = some (ptr (nb k)) := by rw [HFF.out.bis.cell hkn]; exact congrArg some (if_pos ⟨hkn, hc0⟩)
          have HC0 := Lib.hid hc0
          clear hc0
          go_wp2_with fail
          have cl : wr.cell? ⟨lv, (k + 1), none⟩ = some (ptr (lb (k + 1))) := by rw [HFF.out.lvs.cell (by omega)]; exact congrArg some (if_pos ⟨by omega, Or.inr HC0.out⟩)
          have cv1 : wr.cell? ⟨vb, (k + 1), none⟩ = some (.int .i64 (val (k + 1))) := HFF.out.vals.cell (by omega)
          have lsb : w3.heap.size < wr.heap.size := lt_of_heap HFF.out.root
          have hS : ∀ w6, Below wr.heap.size wr w6 → (w6.cell? ⟨w3.heap.size, 0, none⟩ = some (.iface T' (.pointer (some ⟨p', 0, none⟩))) ∧ w6.cell? ⟨w3.heap.size, 1, none⟩ = some (.slice (some ⟨lv, 0, none⟩) (n + 1) (n + 1)) ∧ w6.cell? ⟨w3.heap.size, 2, none⟩ = some (.slice (some ⟨un, 0, none⟩) n n) ∧ w6.cell? ⟨w3.heap.size, 3, none⟩ = some (.slice (some ⟨bi, 0, none⟩) n n)
              ∧ w6.cell? ⟨lv, (k + 1), none⟩ = some (ptr (lb (k + 1))) ∧ w6.cell? ⟨vb, (k + 1), none⟩ = some (.int .i64 (val (k + 1))) ∧ Below wr.heap.size wr w6) := fun w6 hb =>
            ⟨(hb.cell (p := ⟨w3.heap.size, 0, none⟩) lsb).trans r0, (hb.cell (p := ⟨w3.heap.size, 1, none⟩) lsb).trans r1, (hb.cell (p := ⟨w3.heap.size, 2, none⟩) lsb).trans r2, (hb.cell (p := ⟨w3.heap.size, 3, none⟩) lsb).trans r3, (hb.cell (p := ⟨lv, (k + 1), none⟩) HFF.out.lvs.lt).trans cl, (hb.cell (p := ⟨vb, (k + 1), none⟩) HFF.out.vals.lt).trans cv1, hb⟩
          have HS := Lib.hid hS
          have hBd : Below wr.heap.size wr wr.drew := (Below.refl _ _).drew
          have HD := Lib.hid (HFF.out.move hBd)
          have HBd := Lib.hid hBd
          have hk1 : k + 1 ≤ n := by omega
          have HK1 := Lib.hid hk1
          have HKN := Lib.hid hkn
          have e1 : IntKind.i64.wrap ((k : Int) + 1) = (k : Int) + 1 := IntWalk.i64_in _ (by omega)
          have e2 : 0 ≤ (k : Int) + 1 := by omega
          have e3 : ((k : Int) + 1).toNat = k + 1 := by omega
          have e4 : (k : Int) + 1 < (m : Int) := by omega
          have e5 : (k : Int) + 1 < (n : Int) + 1 := by omega
          have e6 : (k : Int) < (n : Int) := by omega
          clear hS hBd hk1 lsb cl cv1 r0 r1 r2 r3 hkn hz cz cb2
          go_region_held3 (fun w' => w'.cell? ⟨w3.heap.size, 0, none⟩ = some (.iface T' (.pointer (some ⟨p', 0, none⟩))) ∧ w'.cell? ⟨w3.heap.size, 1, none⟩ = some (.slice (some ⟨lv, 0, none⟩) (n + 1) (n + 1)) ∧ w'.cell? ⟨w3.heap.size, 2, none⟩ = some (.slice (some ⟨un, 0, none⟩) n n) ∧ w'.cell? ⟨w3.heap.size, 3, none⟩ = some (.slice (some ⟨bi, 0, none⟩) n n)
              ∧ w'.cell? ⟨lv, (k + 1), none⟩ = some (ptr (lb (k + 1))) ∧ w'.cell? ⟨vb, (k + 1), none⟩ = some (.int .i64 (val (k + 1))) ∧ Below wr.heap.size wr w') (first | exact HS.out _ HBd.out | exact HS.out _ HB6.out | exact HS.out _ HB7.out)
            (first
              | (go_at_call 11; refine (HD.out.slot hn (k + 1) HK1.out).mono ?_; rintro e w6 ⟨rfl, hb6⟩; have HB6 := Lib.hid (Below.trans' HBd.out hb6 (Nat.le_refl _)); have HF6 := Lib.hid (HD.out.move hb6); clear hb6)
              | (go_at_call 10; refine (HF6.out.right (k + 1) HK1.out (Or.inr HC0.out)).mono ?_; rintro e w7 ⟨rfl, hb7⟩; have HB7 := Lib.hid (Below.trans' HB6.out hb7 (Nat.le_refl _)); have HF7 := Lib.hid (HF6.out.move hb7); clear hb7))
          all_goals
            clear e1 e2 e3 e4 e5 e6
            have hkn := HKN.out
            go_wp2_with fail
            go_roundw
            case rel => exact ⟨k, (k : Int) - 1, by omega, rfl, by go_num, rfl, HF7.out⟩
            case measure => simp [intOf]
    · obtain rfl : i = 0 := by omega
      have hx0 : ¬ 0 ≤ x := by omega
      have lsb : w3.heap.size < wr.heap.size := lt_of_heap hf.root
      have r0 : wr.cell? ⟨w3.heap.size, 0, none⟩ = some (.iface T' (.pointer (some ⟨p', 0, none⟩))) := by rw [cell_of_block hf.root]; rfl
      have r1 : wr.cell? ⟨w3.heap.size, 1, none⟩ = some (.slice (some ⟨lv, 0, none⟩) (n + 1) (n + 1)) := by rw [cell_of_block hf.root]; rfl
      have r2 : wr.cell? ⟨w3.heap.size, 2, none⟩ = some (.slice (some ⟨un, 0, none⟩) n n) := by rw [cell_of_block hf.root]; rfl
      have r3 : wr.cell? ⟨w3.heap.size, 3, none⟩ = some (.slice (some ⟨bi, 0, none⟩) n n) := by rw [cell_of_block hf.root]; rfl
      have cl : wr.cell? ⟨lv, 0, none⟩ = some (ptr (lb 0)) := by rw [hf.lvs.cell (by omega)]; exact congrArg some (if_pos ⟨by omega, Or.inl rfl⟩)
      have cv1 : wr.cell? ⟨vb, 0, none⟩ = some (.int .i64 (val 0)) := hf.vals.cell (by omega)
      have HFF := Lib.hid hf
      have hS : ∀ w6, Below wr.heap.size wr w6 → (w6.cell? ⟨w3.heap.size, 0, none⟩ = some (.iface T' (.pointer (some ⟨p', 0, none⟩))) ∧ w6.cell? ⟨w3.heap.size, 1, none⟩ = some (.slice (some ⟨lv, 0, none⟩) (n + 1) (n + 1)) ∧ w6.cell? ⟨w3.heap.size, 2, none⟩ = some (.slice (some ⟨un, 0, none⟩) n n) ∧ w6.cell? ⟨w3.heap.size, 3, none⟩ = some (.slice (some ⟨bi, 0, none⟩) n n)
          ∧ w6.cell? ⟨lv, 0, none⟩ = some (ptr (lb 0)) ∧ w6.cell? ⟨vb, 0, none⟩ = some (.int .i64 (val 0)) ∧ Below wr.heap.size wr w6) := fun w6 hb =>
        ⟨(hb.cell (p := ⟨w3.heap.size, 0, none⟩) lsb).trans r0, (hb.cell (p := ⟨w3.heap.size, 1, none⟩) lsb).trans r1, (hb.cell (p := ⟨w3.heap.size, 2, none⟩) lsb).trans r2, (hb.cell (p := ⟨w3.heap.size, 3, none⟩) lsb).trans r3, (hb.cell (p := ⟨lv, 0, none⟩) HFF.out.lvs.lt).trans cl, (hb.cell (p := ⟨vb, 0, none⟩) HFF.out.vals.lt).trans cv1, hb⟩
      have HS := Lib.hid hS
      have hBd : Below wr.heap.size wr wr.drew := (Below.refl _ _).drew
      have HD := Lib.hid (HFF.out.move hBd)
      have HBd := Lib.hid hBd
      have e4 : (0 : Int) < (m : Int) := by omega
      have e5 : (0 : Int) < (n : Int) + 1 := by omega
      have e7 : 0 < m := by omega
      clear hf hS hBd lsb cl cv1 r0 r1 r2 r3 hx hi h0
      go_wp2_with fail
      go_region_held3 (fun w' => w'.cell? ⟨w3.heap.size, 0, none⟩ = some (.iface T' (.pointer (some ⟨p', 0, none⟩))) ∧ w'.cell? ⟨w3.heap.size, 1, none⟩ = some (.slice (some ⟨lv, 0, none⟩) (n + 1) (n + 1)) ∧ w'.cell? ⟨w3.heap.size, 2, none⟩ = some (.slice (some ⟨un, 0, none⟩) n n) ∧ w'.cell? ⟨w3.heap.size, 3, none⟩ = some (.slice (some ⟨bi, 0, none⟩) n n)
          ∧ w'.cell? ⟨lv, 0, none⟩ = some (ptr (lb 0)) ∧ w'.cell? ⟨vb, 0, none⟩ = some (.int .i64 (val 0)) ∧ Below wr.heap.size wr w') (first | exact HS.out _ HBd.out | exact HS.out _ HB6.out | exact HS.out _ HB7.out)
        (first
          | (go_at_call 11; refine (HD.out.slot hn 0 (Nat.zero_le _)).mono ?_; rintro e w6 ⟨rfl, hb6⟩; have HB6 := Lib.hid (Below.trans' HBd.out hb6 (Nat.le_refl _)); have HF6 := Lib.hid (HD.out.move hb6); clear hb6)
          | (go_at_call 10; refine (HF6.out.right 0 (Nat.zero_le _) (Or.inl rfl)).mono ?_; rintro e w7 ⟨rfl, hb7⟩; have HB7 := Lib.hid (Below.trans' HB6.out hb7 (Nat.le_refl _)); have HF7 := Lib.hid (HF6.out.move hb7); clear hb7))
      all_goals
        clear e4 e5 e7
        go_wp2_with fail
        go_ret
        exact ⟨rfl, HF7.out.below⟩

set_option maxRecDepth 100000 in
set_option maxHeartbeats 4000000 in
/-- THE WALK: at every input. -/
theorem lawT (a0 : Option Addr) (l0 c0 : Nat) (z : Nat → Int) (a1 : Option Addr) (l1 c1 : Nat) (val : Nat → Int) (w : World) (w0 : IsRowOf (fun x => .int .u8 x) (fun x => (Lit.int .u8 x).wf = true) w a0 l0 c0 z) (w1 : IsRowOf (fun x => .int .i64 x) (fun x => (Lit.int .i64 x).wf = true) w a1 l1 c1 val) :
    Calls Tryz.prog 3 #[.slice a0 l0 c0, .slice a1 l1 c1] w fun e w' => e = .returned (.bool true) ∧ Below w.heap.size w w' := by
  by_cases hok : l0 ≤ 4096 ∧ l0 + 1 ≤ l1 ∧ l1 ≤ 4097
  · exact lawT_main a0 l0 c0 z a1 l1 c1 val w w0 w1 hok.1 hok.2.1 hok.2.2
  · have m1 : l0 ≤ maxLen := by rcases w0 with ⟨_, h, _⟩ | ⟨_, _, h1, h2, _⟩ <;> omega
    have m2 : l1 ≤ maxLen := by rcases w1 with ⟨_, h, _⟩ | ⟨_, _, h1, h2, _⟩ <;> omega
    have h1 := m1
    have h2 := m2
    unfold maxLen at h1 h2
    have HN := Lib.hid hok
    clear hok w0 w1
    go_enter Tryz.func3, Tryz.ntmps3
    go_wp2_with fail
    refine (bytesT_any _ _ _ _ _ _ _ m1 m2).mono ?_
    rintro e w' ⟨b, rfl, rfl⟩
    cases b
    · go_wp2_with fail
      go_ret
      exact ⟨rfl, Below.refl _ _⟩
    · go_wp2_with fail
      all_goals first
        | (go_ret; exact ⟨rfl, Below.refl _ _⟩)
        | (exfalso; refine HN.out ?_; refine ⟨by omega, by omega, by omega⟩)
end Go.Proofs.YtpjbeenakkfcfaaGreat

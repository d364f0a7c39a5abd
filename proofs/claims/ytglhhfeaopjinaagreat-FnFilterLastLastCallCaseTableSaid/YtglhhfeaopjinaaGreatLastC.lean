/- FnFilterLastLastCallCaseTable: the walk: true at every input. Printed by law53gen.py. -/
import Derived.Test.YtglhhfeaopjinaaGreatLastV
import Derived.Test.YtglhhfeaopjinaaGreatLenX
import Derived.Deep.DeepCutAuto
namespace Go.Proofs.YtglhhfeaopjinaaGreat
open Go.RowKit Go.Deep

set_option maxRecDepth 100000 in
set_option maxHeartbeats 8000000 in
theorem bytesLA (m n : Int) (wm : Bool) (on inn : ByteArray) (w : World) (h1 : on.size ≤ 1048576) (h2 : on.size + inn.size ≤ 1048576) :
    Calls Tryz.prog 19 #[.string on, .int .i64 m, .string inn, .int .i64 n, .bool wm] w fun e w' => e = .returned (.bool true) ∧ w = w' := by
  have h3 : inn.size ≤ 1048576 := by omega
  go_enter Tryz.func19, Tryz.ntmps19
  go_wp2_with fail
  all_goals first
    | (go_ret; exact ⟨rfl, rfl⟩)
    | (exfalso; omega)

set_option maxRecDepth 100000 in
set_option maxHeartbeats 8000000 in
theorem bytesLA_any (m n : Int) (wm : Bool) (on inn : ByteArray) (w : World) (h1 : on.size ≤ maxLen) (h2 : inn.size ≤ maxLen) :
    Calls Tryz.prog 19 #[.string on, .int .i64 m, .string inn, .int .i64 n, .bool wm] w (BytesB w (on.size + inn.size ≤ 1048576)) := by
  unfold maxLen at h1 h2
  go_enter Tryz.func19, Tryz.ntmps19
  go_wp2_with fail
  all_goals (go_ret; exact ⟨_, rfl, (by intro h; first | (cases h; done) | omega), rfl⟩)

set_option maxRecDepth 100000 in
set_option maxHeartbeats 8000000 in
theorem lawLast_false (on inn : ByteArray) (m n : Nat) (hm : m ≤ 65536) (hn : n ≤ 65536) (hs : on.size + inn.size ≤ 1048576) (w : World) :
    Calls Tryz.prog 5 #[.string on, .int .i64 m, .string inn, .int .i64 n, .bool false] w (Yes w) := by
  have hs1 : on.size ≤ 1048576 := by omega
  go_enter Tryz.func5, Tryz.ntmps5
  go_wp2_with fail
  refine (bytesLA _ _ _ _ _ _ hs1 hs).mono ?_
  rintro e w' ⟨rfl, rfl⟩
  go_wp2_with fail
  refine (idents_any n hn _).mono ?_
  rintro e w1 h
  obtain ⟨ba, b0, rfl, hb1, hi1⟩ := h
  have HB1 := Lib.hid hb1
  have HI1 := Lib.hid hi1
  clear hb1 hi1
  go_wp2_with fail
  refine (asNodes_any ba b0 n hn _ HI1.out).mono ?_
  rintro e w2 h
  obtain ⟨bn, rfl, hb2, hn2⟩ := h
  have HB2 := Lib.hid (HB1.out.trans (hb2.mono HB1.out.size))
  have HI2 := Lib.hid (HI1.out.move (Keeps.below hb2))
  have HN2 := Lib.hid hn2
  clear hb2 hn2
  go_wp2_with fail
  refine (idents_any m hm _).mono ?_
  rintro e w4 h
  obtain ⟨fa, f0, rfl, hb4, hf4⟩ := h
  have HB4 := Lib.hid ((below2 HB2.out HB2.out.size _ _).trans (hb4.mono (by have := HB2.out.size; rw [alloc_size, alloc_size]; omega)))
  have HI4 := Lib.hid ((Inn.of (inn := inn) HI2.out HN2.out .nilIface _).move (Keeps.below hb4))
  have HF4 := Lib.hid hf4
  clear hb4 hf4
  go_wp2_with fail
  refine (outer_any _ fa f0 m hm _ HF4.out).mono ?_
  rintro e w5 h
  obtain ⟨bo, rfl, hb5, ho5⟩ := h
  have HB5 := Lib.hid (HB4.out.trans (hb5.mono HB4.out.size))
  have HI5 := Lib.hid (HI4.out.move (Keeps.below hb5))
  have HF5 := Lib.hid (HF4.out.move (Keeps.below hb5))
  have HO5 := Lib.hid ho5
  clear hb5 ho5
  go_wp2_with fail
  refine (zzLast_n on (w5.heap.size + 1) w5.heap.size bo m w2.heap.size bn n inn _ (rootOf _ _) (nodeOf _ _) (keeps2 _ _ _ _ _ HI5.out.inner) (fun h => (keeps2 _ _ _).cell (World.rowIs.cell HO5.out h))).mono ?_
  rintro e w6 hv
  have hret := hv.ret
  subst hret
  rcases hv with ⟨hno, _, hb6⟩ | ⟨hyes, _, q, hw6, hq, hroot, hbuilt⟩
  · have hk6 := (keeps2 w5 _ _).trans (Keeps.below hb6)
    have hr6 := Keeps.below hb6 _ _ (rootOf (w := w5) _ _)
    have hp6 := Keeps.below hb6 _ _ (nodeOf (w := w5) _ _)
    have HB6 := Lib.hid ((below2 HB5.out HB5.out.size _ _).trans (hb6.mono (by have := HB5.out.size; rw [alloc_size, alloc_size]; omega)))
    have HI6 := Lib.hid (HI5.out.move hk6)
    have HF6 := Lib.hid (HF5.out.move hk6)
    have HO6 := Lib.hid (HO5.out.move hk6)
    have HNo := Lib.hid hno
    have c0 : w6.cell? ⟨w5.heap.size + 1, 0, none⟩ = some (.iface 39 (.pointer (some ⟨w5.heap.size, 0, none⟩))) := by rw [cell_of_block hr6]; rfl
    have c1 : w6.cell? ⟨w5.heap.size, 11, none⟩ = some (.string on) := by rw [cell_of_block hp6]; rfl
    have c2 : w6.cell? ⟨w5.heap.size, 12, none⟩ = some (.slice (some ⟨bo, 0, none⟩) m m) := by rw [cell_of_block hp6]; rfl
    clear hno hb6 hk6 c1 c2
    go_wp2_with (go_at_call 12; refine (asBui_yes _ _).mono ?_; rintro e w' ⟨rfl, rfl⟩)
    refine (zzLast_n on (w5.heap.size + 1) w5.heap.size bo m w2.heap.size bn n inn _ hr6 hp6 HI6.out.inner (fun h => World.rowIs.cell HO6.out h)).mono ?_
    rintro e w8 hk
    obtain ⟨rfl, hb8⟩ : Kept w6 e w8 := hk.elim (fun y => y.2) (fun y => absurd y.1 HNo.out)
    have hr8 := Keeps.below hb8 _ _ hr6
    have hp8 := Keeps.below hb8 _ _ hp6
    have HB8 := Lib.hid (HB6.out.trans (hb8.mono HB6.out.size))
    have HI8 := Lib.hid (HI6.out.move (Keeps.below hb8))
    have HF8 := Lib.hid (HF6.out.move (Keeps.below hb8))
    have HO8 := Lib.hid (HO6.out.move (Keeps.below hb8))
    have c0 : w8.cell? ⟨w5.heap.size + 1, 0, none⟩ = some (.iface 39 (.pointer (some ⟨w5.heap.size, 0, none⟩))) := by rw [cell_of_block hr8]; rfl
    have c1 : w8.cell? ⟨w5.heap.size, 11, none⟩ = some (.string on) := by rw [cell_of_block hp8]; rfl
    have c2 : w8.cell? ⟨w5.heap.size, 12, none⟩ = some (.slice (some ⟨bo, 0, none⟩) m m) := by rw [cell_of_block hp8]; rfl
    have c3 : w8.cell? ⟨w2.heap.size, 11, none⟩ = some (.string inn) := by rw [cell_of_block HI8.out.inner]; rfl
    have c4 : w8.cell? ⟨w2.heap.size, 12, none⟩ = some (.slice (some ⟨bn, 0, none⟩) n n) := by rw [cell_of_block HI8.out.inner]; rfl
    have nNil := eqNilBui (w5.heap.size)
    have nSame := neq_ptr_same Tryz.underlying39 sBui
    have eSame := eql_ptr_same Tryz.underlying39 sBui
    clear hb8 hr8 hp8 hr6 hp6
    go_upto_region 22 with (go_at_call 12; refine (asBui_yes _ _).mono ?_; rintro e w' ⟨rfl, rfl⟩)
    go_cut [1, 3, 18] (fun s1 s3 c wx => s1 = .int .i64 m ∧ s3 = .int .i64 n ∧ c = .bool false ∧ w8 = wx)
    case first =>
      go_wp2_with fail
      all_goals
        go_meet
        first
          | (exfalso; exact absurd HY.out.1 (by assumption))
          | (exfalso; exact absurd HY.out.2.1 (by assumption))
          | (exfalso; exact absurd HY.out.2.2.1 (by assumption))
          | (refine ⟨?_, ?_, ?_, rfl⟩
             · first | rfl | exact congrArg (Value.int .i64) (by omega)
             · first | rfl | exact congrArg (Value.int .i64) (by omega)
             · first | rfl | exact congrArg Value.bool (LastRw.no_n HNo.out (by assumption) (by assumption) (by assumption)))
    case rest =>
      obtain ⟨rfl, rfl, rfl, rfl⟩ := hcut
      go_wp2_with (go_at_call 13; refine (sameOuter_yes bo w2.heap.size f0 fa m hm _ HO8.out HF8.out).mono ?_; rintro e w9 h9; obtain ⟨rfl, hb9⟩ := h9)
      go_ret
      exact ⟨rfl, HB8.out.trans (hb9.mono HB8.out.size)⟩
  · have hk6 := (Keeps.alloc w5 _).trans (keepsWr hw6)
    have hp6 := keepsWr hw6 _ _ (alloc_new w5 _)
    have HB6 := Lib.hid ((below2 HB5.out HB5.out.size _ _).trans (hw6.below (by have := HB5.out.size; rw [alloc_size, alloc_size]; omega) (by have := HB5.out.size; simp; omega)))
    have HI6 := Lib.hid (HI5.out.move hk6)
    have HF6 := Lib.hid (HF5.out.move hk6)
    have HO6 := Lib.hid (HO5.out.move hk6)
    have HY := Lib.hid hyes
    have c0 : w6.cell? ⟨w5.heap.size + 1, 0, none⟩ = some (.iface 39 (.pointer (some ⟨q, 0, none⟩))) := by rw [cell_of_block hroot]; rfl
    have c1 : w6.cell? ⟨q, 11, none⟩ = some (.string ⟨#[102, 105, 110, 100, 76, 97, 115, 116]⟩) := by rw [cell_of_block hbuilt]; rfl
    have c2 : w6.cell? ⟨q, 12, none⟩ = some (.slice (some ⟨bn, 0, none⟩) n n) := by rw [cell_of_block hbuilt]; rfl
    have c3 : w6.cell? ⟨q, 13, none⟩ = some (.bool false) := by rw [cell_of_block hbuilt]; rfl
    have c4 : w6.cell? ⟨q, 14, none⟩ = some (.nilIface) := by rw [cell_of_block hbuilt]; rfl
    have c5 : w6.cell? ⟨q, 15, none⟩ = some (.pointer none) := by rw [cell_of_block hbuilt]; rfl
    have d1 : w6.cell? ⟨w5.heap.size, 11, none⟩ = some (.string on) := by rw [cell_of_block hp6]; rfl
    have d2 : w6.cell? ⟨w5.heap.size, 12, none⟩ = some (.slice (some ⟨bo, 0, none⟩) m m) := by rw [cell_of_block hp6]; rfl
    have hqp : q ≠ w5.heap.size := by rw [alloc_size, alloc_size] at hq; omega
    have nOther := neq_ptr_other Tryz.underlying39 szBui hqp hbuilt hp6
    have nNil := neNilBui q
    have eNil := eqNilNode
    clear hyes hk6 nOther nNil eNil d1 d2 c1 c2 c3 c4 c5
    go_wp2_with (go_at_call 12; refine (asBui_yes _ _).mono ?_; rintro e w' ⟨rfl, rfl⟩)
    refine (zzLast_again (.nilIface) false (w5.heap.size + 1) q bn n _ hroot hbuilt).mono ?_
    rintro e w8 hk
    obtain ⟨rfl, hb8⟩ := hk
    have hr8 := Keeps.below hb8 _ _ hroot
    have hq8 := Keeps.below hb8 _ _ hbuilt
    have hp8 := Keeps.below hb8 _ _ hp6
    have HB8 := Lib.hid (HB6.out.trans (hb8.mono HB6.out.size))
    have HI8 := Lib.hid (HI6.out.move (Keeps.below hb8))
    have HF8 := Lib.hid (HF6.out.move (Keeps.below hb8))
    have HO8 := Lib.hid (HO6.out.move (Keeps.below hb8))
    have c0 : w8.cell? ⟨w5.heap.size + 1, 0, none⟩ = some (.iface 39 (.pointer (some ⟨q, 0, none⟩))) := by rw [cell_of_block hr8]; rfl
    have c1 : w8.cell? ⟨w5.heap.size, 11, none⟩ = some (.string on) := by rw [cell_of_block hp8]; rfl
    have c2 : w8.cell? ⟨w5.heap.size, 12, none⟩ = some (.slice (some ⟨bo, 0, none⟩) m m) := by rw [cell_of_block hp8]; rfl
    have c3 : w8.cell? ⟨w2.heap.size, 11, none⟩ = some (.string inn) := by rw [cell_of_block HI8.out.inner]; rfl
    have c4 : w8.cell? ⟨w2.heap.size, 12, none⟩ = some (.slice (some ⟨bn, 0, none⟩) n n) := by rw [cell_of_block HI8.out.inner]; rfl
    have nNil := eqNilBui (q)
    have nSame := neq_ptr_same Tryz.underlying39 sBui
    have d1 : w8.cell? ⟨q, 11, none⟩ = some (.string ⟨#[102, 105, 110, 100, 76, 97, 115, 116]⟩) := by rw [cell_of_block hq8]; rfl
    have d2 : w8.cell? ⟨q, 12, none⟩ = some (.slice (some ⟨bn, 0, none⟩) n n) := by rw [cell_of_block hq8]; rfl
    have d3 : w8.cell? ⟨q, 13, none⟩ = some (.bool false) := by rw [cell_of_block hq8]; rfl
    have d4 : w8.cell? ⟨q, 14, none⟩ = some (.nilIface) := by rw [cell_of_block hq8]; rfl
    have nOther := neq_ptr_other Tryz.underlying39 szBui hqp hq8 hp8
    have eOther := eql_ptr_other Tryz.underlying39 szBui hqp hq8 hp8
    clear hb8 hr8 hp8 hq8 hw6 hq hroot hbuilt hp6 hqp
    go_upto_region 22 with (go_at_call 12; refine (asBui_yes _ _).mono ?_; rintro e w' ⟨rfl, rfl⟩)
    go_cut [1, 3, 18] (fun s1 s3 c wx => s1 = .int .i64 m ∧ s3 = .int .i64 n ∧ c = .bool true ∧ w8 = wx)
    case first =>
      go_wp2_with fail
      all_goals
        go_meet
        first
          | (exfalso; exact absurd HY.out.1 (by assumption))
          | (exfalso; exact absurd HY.out.2.1 (by assumption))
          | (exfalso; exact absurd HY.out.2.2.1 (by assumption))
          | (refine ⟨?_, ?_, ?_, rfl⟩
             · first | rfl | exact congrArg (Value.int .i64) (by omega)
             · first | rfl | exact congrArg (Value.int .i64) (by omega)
             · first | rfl | exact congrArg Value.bool (LastRw.yes_n HY.out))
    case rest =>
      obtain ⟨rfl, rfl, rfl, rfl⟩ := hcut
      go_wp2_with fail
      refine (sameIdents_yes ba b0 bn n hn _ HI8.out.ids HI8.out.nodes).mono ?_
      rintro e w10 h10
      obtain ⟨rfl, hb10⟩ := h10
      have HB10 := Lib.hid (HB8.out.trans (hb10.mono HB8.out.size))
      have e5 : w10.cell? ⟨q, 14, none⟩ = some (.nilIface) := (Keeps.below hb10).cell d4
      have eNil := eqNilNode
      have eId := eql_ptr_same Tryz.underlying58 sId
      clear hb10
      go_wp2_with (go_at_call 18; refine (asId_yes _ _).mono ?_; rintro e w' ⟨rfl, rfl⟩)
      go_ret
      exact ⟨rfl, HB10.out⟩

set_option maxRecDepth 100000 in
set_option maxHeartbeats 8000000 in
theorem lawLast_true (on inn : ByteArray) (m n : Nat) (hm : m ≤ 65536) (hn : n ≤ 65536) (hs : on.size + inn.size ≤ 1048576) (w : World) :
    Calls Tryz.prog 5 #[.string on, .int .i64 m, .string inn, .int .i64 n, .bool true] w (Yes w) := by
  have hs1 : on.size ≤ 1048576 := by omega
  go_enter Tryz.func5, Tryz.ntmps5
  go_wp2_with fail
  refine (bytesLA _ _ _ _ _ _ hs1 hs).mono ?_
  rintro e w' ⟨rfl, rfl⟩
  go_wp2_with fail
  refine (idents_any n hn _).mono ?_
  rintro e w1 h
  obtain ⟨ba, b0, rfl, hb1, hi1⟩ := h
  have HB1 := Lib.hid hb1
  have HI1 := Lib.hid hi1
  clear hb1 hi1
  go_wp2_with fail
  refine (asNodes_any ba b0 n hn _ HI1.out).mono ?_
  rintro e w2 h
  obtain ⟨bn, rfl, hb2, hn2⟩ := h
  have HB2 := Lib.hid (HB1.out.trans (hb2.mono HB1.out.size))
  have HI2 := Lib.hid (HI1.out.move (Keeps.below hb2))
  have HN2 := Lib.hid hn2
  clear hb2 hn2
  go_wp2_with fail
  refine (idents_any m hm _).mono ?_
  rintro e w4 h
  obtain ⟨fa, f0, rfl, hb4, hf4⟩ := h
  have HB4 := Lib.hid ((below2 HB2.out HB2.out.size _ _).trans (hb4.mono (by have := HB2.out.size; rw [alloc_size, alloc_size]; omega)))
  have HI4 := Lib.hid ((Inn.of (inn := inn) HI2.out HN2.out (.iface 58 (.pointer (some ⟨w2.heap.size + 1, 0, none⟩))) _).move (Keeps.below hb4))
  have HF4 := Lib.hid hf4
  clear hb4 hf4
  go_wp2_with fail
  refine (outer_any _ fa f0 m hm _ HF4.out).mono ?_
  rintro e w5 h
  obtain ⟨bo, rfl, hb5, ho5⟩ := h
  have HB5 := Lib.hid (HB4.out.trans (hb5.mono HB4.out.size))
  have HI5 := Lib.hid (HI4.out.move (Keeps.below hb5))
  have HF5 := Lib.hid (HF4.out.move (Keeps.below hb5))
  have HO5 := Lib.hid ho5
  clear hb5 ho5
  go_wp2_with fail
  refine (zzLast_m on (w5.heap.size + 1) w5.heap.size bo m w2.heap.size bn n inn (w2.heap.size + 1) _ (rootOf _ _) (nodeOf _ _) (keeps2 _ _ _ _ _ HI5.out.inner) (fun h => (keeps2 _ _ _).cell (World.rowIs.cell HO5.out h))).mono ?_
  rintro e w6 hv
  have hret := hv.ret
  subst hret
  rcases hv with ⟨hno, _, hb6⟩ | ⟨hyes, _, q, hw6, hq, hroot, hbuilt⟩
  · have hk6 := (keeps2 w5 _ _).trans (Keeps.below hb6)
    have hr6 := Keeps.below hb6 _ _ (rootOf (w := w5) _ _)
    have hp6 := Keeps.below hb6 _ _ (nodeOf (w := w5) _ _)
    have HB6 := Lib.hid ((below2 HB5.out HB5.out.size _ _).trans (hb6.mono (by have := HB5.out.size; rw [alloc_size, alloc_size]; omega)))
    have HI6 := Lib.hid (HI5.out.move hk6)
    have HF6 := Lib.hid (HF5.out.move hk6)
    have HO6 := Lib.hid (HO5.out.move hk6)
    have HNo := Lib.hid hno
    have c0 : w6.cell? ⟨w5.heap.size + 1, 0, none⟩ = some (.iface 39 (.pointer (some ⟨w5.heap.size, 0, none⟩))) := by rw [cell_of_block hr6]; rfl
    have c1 : w6.cell? ⟨w5.heap.size, 11, none⟩ = some (.string on) := by rw [cell_of_block hp6]; rfl
    have c2 : w6.cell? ⟨w5.heap.size, 12, none⟩ = some (.slice (some ⟨bo, 0, none⟩) m m) := by rw [cell_of_block hp6]; rfl
    clear hno hb6 hk6 c1 c2
    go_wp2_with (go_at_call 12; refine (asBui_yes _ _).mono ?_; rintro e w' ⟨rfl, rfl⟩)
    refine (zzLast_m on (w5.heap.size + 1) w5.heap.size bo m w2.heap.size bn n inn (w2.heap.size + 1) _ hr6 hp6 HI6.out.inner (fun h => World.rowIs.cell HO6.out h)).mono ?_
    rintro e w8 hk
    obtain ⟨rfl, hb8⟩ : Kept w6 e w8 := hk.elim (fun y => y.2) (fun y => absurd y.1 HNo.out)
    have hr8 := Keeps.below hb8 _ _ hr6
    have hp8 := Keeps.below hb8 _ _ hp6
    have HB8 := Lib.hid (HB6.out.trans (hb8.mono HB6.out.size))
    have HI8 := Lib.hid (HI6.out.move (Keeps.below hb8))
    have HF8 := Lib.hid (HF6.out.move (Keeps.below hb8))
    have HO8 := Lib.hid (HO6.out.move (Keeps.below hb8))
    have c0 : w8.cell? ⟨w5.heap.size + 1, 0, none⟩ = some (.iface 39 (.pointer (some ⟨w5.heap.size, 0, none⟩))) := by rw [cell_of_block hr8]; rfl
    have c1 : w8.cell? ⟨w5.heap.size, 11, none⟩ = some (.string on) := by rw [cell_of_block hp8]; rfl
    have c2 : w8.cell? ⟨w5.heap.size, 12, none⟩ = some (.slice (some ⟨bo, 0, none⟩) m m) := by rw [cell_of_block hp8]; rfl
    have c3 : w8.cell? ⟨w2.heap.size, 11, none⟩ = some (.string inn) := by rw [cell_of_block HI8.out.inner]; rfl
    have c4 : w8.cell? ⟨w2.heap.size, 12, none⟩ = some (.slice (some ⟨bn, 0, none⟩) n n) := by rw [cell_of_block HI8.out.inner]; rfl
    have nNil := eqNilBui (w5.heap.size)
    have nSame := neq_ptr_same Tryz.underlying39 sBui
    have eSame := eql_ptr_same Tryz.underlying39 sBui
    clear hb8 hr8 hp8 hr6 hp6
    go_upto_region 22 with (go_at_call 12; refine (asBui_yes _ _).mono ?_; rintro e w' ⟨rfl, rfl⟩)
    go_cut [1, 3, 18] (fun s1 s3 c wx => s1 = .int .i64 m ∧ s3 = .int .i64 n ∧ c = .bool false ∧ w8 = wx)
    case first =>
      go_wp2_with fail
      all_goals
        go_meet
        first
          | (exfalso; exact absurd HY.out.1 (by assumption))
          | (exfalso; exact absurd HY.out.2.1 (by assumption))
          | (exfalso; exact absurd HY.out.2.2.1 (by assumption))
          | (refine ⟨?_, ?_, ?_, rfl⟩
             · first | rfl | exact congrArg (Value.int .i64) (by omega)
             · first | rfl | exact congrArg (Value.int .i64) (by omega)
             · first | rfl | exact congrArg Value.bool (LastRw.no_n HNo.out (by assumption) (by assumption) (by assumption)))
    case rest =>
      obtain ⟨rfl, rfl, rfl, rfl⟩ := hcut
      go_wp2_with (go_at_call 13; refine (sameOuter_yes bo w2.heap.size f0 fa m hm _ HO8.out HF8.out).mono ?_; rintro e w9 h9; obtain ⟨rfl, hb9⟩ := h9)
      go_ret
      exact ⟨rfl, HB8.out.trans (hb9.mono HB8.out.size)⟩
  · have hk6 := (Keeps.alloc w5 _).trans (keepsWr hw6)
    have hp6 := keepsWr hw6 _ _ (alloc_new w5 _)
    have HB6 := Lib.hid ((below2 HB5.out HB5.out.size _ _).trans (hw6.below (by have := HB5.out.size; rw [alloc_size, alloc_size]; omega) (by have := HB5.out.size; simp; omega)))
    have HI6 := Lib.hid (HI5.out.move hk6)
    have HF6 := Lib.hid (HF5.out.move hk6)
    have HO6 := Lib.hid (HO5.out.move hk6)
    have HY := Lib.hid hyes
    have c0 : w6.cell? ⟨w5.heap.size + 1, 0, none⟩ = some (.iface 39 (.pointer (some ⟨q, 0, none⟩))) := by rw [cell_of_block hroot]; rfl
    have c1 : w6.cell? ⟨q, 11, none⟩ = some (.string ⟨#[102, 105, 110, 100, 76, 97, 115, 116]⟩) := by rw [cell_of_block hbuilt]; rfl
    have c2 : w6.cell? ⟨q, 12, none⟩ = some (.slice (some ⟨bn, 0, none⟩) n n) := by rw [cell_of_block hbuilt]; rfl
    have c3 : w6.cell? ⟨q, 13, none⟩ = some (.bool false) := by rw [cell_of_block hbuilt]; rfl
    have c4 : w6.cell? ⟨q, 14, none⟩ = some (.iface 58 (.pointer (some ⟨w2.heap.size + 1, 0, none⟩))) := by rw [cell_of_block hbuilt]; rfl
    have c5 : w6.cell? ⟨q, 15, none⟩ = some (.pointer none) := by rw [cell_of_block hbuilt]; rfl
    have d1 : w6.cell? ⟨w5.heap.size, 11, none⟩ = some (.string on) := by rw [cell_of_block hp6]; rfl
    have d2 : w6.cell? ⟨w5.heap.size, 12, none⟩ = some (.slice (some ⟨bo, 0, none⟩) m m) := by rw [cell_of_block hp6]; rfl
    have hqp : q ≠ w5.heap.size := by rw [alloc_size, alloc_size] at hq; omega
    have nOther := neq_ptr_other Tryz.underlying39 szBui hqp hbuilt hp6
    have nNil := neNilBui q
    have eNil := eqNilNode
    clear hyes hk6 nOther nNil eNil d1 d2 c1 c2 c3 c4 c5
    go_wp2_with (go_at_call 12; refine (asBui_yes _ _).mono ?_; rintro e w' ⟨rfl, rfl⟩)
    refine (zzLast_again ((.iface 58 (.pointer (some ⟨w2.heap.size + 1, 0, none⟩)))) false (w5.heap.size + 1) q bn n _ hroot hbuilt).mono ?_
    rintro e w8 hk
    obtain ⟨rfl, hb8⟩ := hk
    have hr8 := Keeps.below hb8 _ _ hroot
    have hq8 := Keeps.below hb8 _ _ hbuilt
    have hp8 := Keeps.below hb8 _ _ hp6
    have HB8 := Lib.hid (HB6.out.trans (hb8.mono HB6.out.size))
    have HI8 := Lib.hid (HI6.out.move (Keeps.below hb8))
    have HF8 := Lib.hid (HF6.out.move (Keeps.below hb8))
    have HO8 := Lib.hid (HO6.out.move (Keeps.below hb8))
    have c0 : w8.cell? ⟨w5.heap.size + 1, 0, none⟩ = some (.iface 39 (.pointer (some ⟨q, 0, none⟩))) := by rw [cell_of_block hr8]; rfl
    have c1 : w8.cell? ⟨w5.heap.size, 11, none⟩ = some (.string on) := by rw [cell_of_block hp8]; rfl
    have c2 : w8.cell? ⟨w5.heap.size, 12, none⟩ = some (.slice (some ⟨bo, 0, none⟩) m m) := by rw [cell_of_block hp8]; rfl
    have c3 : w8.cell? ⟨w2.heap.size, 11, none⟩ = some (.string inn) := by rw [cell_of_block HI8.out.inner]; rfl
    have c4 : w8.cell? ⟨w2.heap.size, 12, none⟩ = some (.slice (some ⟨bn, 0, none⟩) n n) := by rw [cell_of_block HI8.out.inner]; rfl
    have nNil := eqNilBui (q)
    have nSame := neq_ptr_same Tryz.underlying39 sBui
    have d1 : w8.cell? ⟨q, 11, none⟩ = some (.string ⟨#[102, 105, 110, 100, 76, 97, 115, 116]⟩) := by rw [cell_of_block hq8]; rfl
    have d2 : w8.cell? ⟨q, 12, none⟩ = some (.slice (some ⟨bn, 0, none⟩) n n) := by rw [cell_of_block hq8]; rfl
    have d3 : w8.cell? ⟨q, 13, none⟩ = some (.bool false) := by rw [cell_of_block hq8]; rfl
    have d4 : w8.cell? ⟨q, 14, none⟩ = some (.iface 58 (.pointer (some ⟨w2.heap.size + 1, 0, none⟩))) := by rw [cell_of_block hq8]; rfl
    have nOther := neq_ptr_other Tryz.underlying39 szBui hqp hq8 hp8
    have eOther := eql_ptr_other Tryz.underlying39 szBui hqp hq8 hp8
    clear hb8 hr8 hp8 hq8 hw6 hq hroot hbuilt hp6 hqp
    go_upto_region 22 with (go_at_call 12; refine (asBui_yes _ _).mono ?_; rintro e w' ⟨rfl, rfl⟩)
    go_cut [1, 3, 18] (fun s1 s3 c wx => s1 = .int .i64 m ∧ s3 = .int .i64 n ∧ c = .bool true ∧ w8 = wx)
    case first =>
      go_wp2_with fail
      all_goals
        go_meet
        first
          | (exfalso; exact absurd HY.out.1 (by assumption))
          | (exfalso; exact absurd HY.out.2.1 (by assumption))
          | (exfalso; exact absurd HY.out.2.2.1 (by assumption))
          | (refine ⟨?_, ?_, ?_, rfl⟩
             · first | rfl | exact congrArg (Value.int .i64) (by omega)
             · first | rfl | exact congrArg (Value.int .i64) (by omega)
             · first | rfl | exact congrArg Value.bool (LastRw.yes_n HY.out))
    case rest =>
      obtain ⟨rfl, rfl, rfl, rfl⟩ := hcut
      go_wp2_with fail
      refine (sameIdents_yes ba b0 bn n hn _ HI8.out.ids HI8.out.nodes).mono ?_
      rintro e w10 h10
      obtain ⟨rfl, hb10⟩ := h10
      have HB10 := Lib.hid (HB8.out.trans (hb10.mono HB8.out.size))
      have e5 : w10.cell? ⟨q, 14, none⟩ = some (.iface 58 (.pointer (some ⟨w2.heap.size + 1, 0, none⟩))) := (Keeps.below hb10).cell d4
      have eNil := eqNilNode
      have eId := eql_ptr_same Tryz.underlying58 sId
      clear hb10
      go_wp2_with (go_at_call 18; refine (asId_yes _ _).mono ?_; rintro e w' ⟨rfl, rfl⟩)
      go_ret
      exact ⟨rfl, HB10.out⟩

theorem lawLast_ok (wm : Bool) (on inn : ByteArray) (m n : Nat) (hm : m ≤ 65536) (hn : n ≤ 65536) (hs : on.size + inn.size ≤ 1048576) (w : World) :
    Calls Tryz.prog 5 #[.string on, .int .i64 m, .string inn, .int .i64 n, .bool wm] w (Yes w) := by
  cases wm
  · exact lawLast_false on inn m n hm hn hs w
  · exact lawLast_true on inn m n hm hn hs w

set_option maxRecDepth 100000 in
set_option maxHeartbeats 8000000 in
/-- THE WALK: at every input. -/
theorem lawLast (on : ByteArray) (m : Int) (inn : ByteArray) (n : Int) (wm : Bool) (w : World) (h1 : on.size ≤ maxLen) (h2 : inn.size ≤ maxLen) :
    Calls Tryz.prog 5 #[.string on, .int .i64 m, .string inn, .int .i64 n, .bool wm] w (Yes w) := by
  by_cases hok : on.size + inn.size ≤ 1048576 ∧ (0 ≤ m ∧ m ≤ 65536) ∧ (0 ≤ n ∧ n ≤ 65536)
  · obtain ⟨g1, ⟨g3, g4⟩, ⟨g5, g6⟩⟩ := hok
    obtain ⟨m, rfl⟩ := Int.eq_ofNat_of_zero_le g3
    obtain ⟨n, rfl⟩ := Int.eq_ofNat_of_zero_le g5
    exact lawLast_ok wm on inn m n (by omega) (by omega) g1 w
  · have m1 := h1
    have m2 := h2
    unfold maxLen at h1 h2
    have HN := Lib.hid hok
    clear hok
    go_enter Tryz.func5, Tryz.ntmps5
    go_wp2_with fail
    refine (bytesLA_any _ _ _ _ _ _ m1 m2).mono ?_
    rintro e w' h
    obtain ⟨b, rfl, hb, rfl⟩ := h
    cases b
    · go_wp2_with fail
      go_ret
      exact ⟨rfl, Below.refl _ _⟩
    · have hs := hb rfl
      have hs1 : on.size ≤ 1048576 := by omega
      have hs2 : inn.size ≤ 1048576 := by omega
      clear hb
      go_wp2_with fail
      all_goals first
        | (go_ret; exact ⟨rfl, Below.refl _ _⟩)
        | (exfalso; refine HN.out ?_; refine ⟨by omega, ⟨by omega, by omega⟩, by omega, by omega⟩)
end Go.Proofs.YtglhhfeaopjinaaGreat

/- FnFilterLastMemberCaseTable: the walk: true at every input. Printed by law53gen.py. -/
import Derived.Test.YtglhhfeaopjinaaGreatLastU
import Derived.Test.YtglhhfeaopjinaaGreatLenX
import Derived.Deep.DeepCutAuto
namespace Go.Proofs.YtglhhfeaopjinaaGreat
open Go.RowKit Go.Deep

set_option maxRecDepth 100000 in
set_option maxHeartbeats 8000000 in
theorem bytesM (pk pv n : Int) (opt wm : Bool) (inn : ByteArray) (w : World) (h1 : inn.size ≤ 1048576) :
    Calls Tryz.prog 15 #[.int .i64 pk, .int .i64 pv, .bool opt, .string inn, .int .i64 n, .bool wm] w fun e w' => e = .returned (.bool true) ∧ w = w' := by
  go_enter Tryz.func15, Tryz.ntmps15
  go_wp2_with fail
  all_goals first
    | (go_ret; exact ⟨rfl, rfl⟩)
    | (exfalso; omega)

set_option maxRecDepth 100000 in
set_option maxHeartbeats 8000000 in
theorem bytesM_any (pk pv n : Int) (opt wm : Bool) (inn : ByteArray) (w : World) (h1 : inn.size ≤ maxLen) :
    Calls Tryz.prog 15 #[.int .i64 pk, .int .i64 pv, .bool opt, .string inn, .int .i64 n, .bool wm] w (BytesB w (inn.size ≤ 1048576)) := by
  unfold maxLen at h1
  go_enter Tryz.func15, Tryz.ntmps15
  go_wp2_with fail
  all_goals (go_ret; exact ⟨_, rfl, (by intro h; first | (cases h; done) | omega), rfl⟩)

/-- the member access over the inner call, its property laid or not; then the root cell -/
theorem Inn.of3 {w : World} {ba bn b0 n : Nat} {inn : ByteArray} (hi : Ids w ba b0 n) (hn : NodesAt w bn b0 n) (M : Value) (o o2 : Obj) :
    Inn (((w.alloc (.cells (nd0 [.string inn, (.slice (some ⟨bn, 0, none⟩) n n), .bool false, M, .pointer none]) 57)).alloc o).alloc o2) w.heap.size ba bn b0 n inn M :=
  (Inn.of hi hn M o).move (Keeps.alloc _ _)

theorem keepsRoot {w w' : World} {o : Obj} {a : Nat} (ha : a = w.heap.size) (h : Wr [a] (w.alloc o) w') : Keeps w w' := fun k x hk =>
  h.keep (Keeps.alloc _ _ _ _ hk) (by have := lt_of_heap hk; simp; omega)

set_option maxRecDepth 100000 in
set_option maxHeartbeats 8000000 in
theorem lawMem_no_false (pk pv : Int) (opt : Bool) (inn : ByteArray) (n : Nat) (hn : n ≤ 65536) (hs : inn.size ≤ 1048576) (w : World) (hk1 : pk ≠ 1) (hk2 : pk ≠ 2) :
    Calls Tryz.prog 4 #[.int .i64 pk, .int .i64 pv, .bool opt, .string inn, .int .i64 n, .bool false] w (Yes w) := by
  have k1 : (pk == 1) = false := by simp; omega
  have k2 : (pk == 2) = false := by simp; omega
  have HK1 := Lib.hid hk1
  clear hk1 hk2
  go_enter Tryz.func4, Tryz.ntmps4
  go_wp2_with fail
  refine (bytesM _ _ _ _ _ _ _ hs).mono ?_
  rintro e w' ⟨rfl, rfl⟩
  go_wp2_with fail
  refine (idents_any n hn _).mono ?_
  rintro e w1 h
  obtain ⟨ba, b0, rfl, hb1, hi1⟩ := h
  have HB1 := Lib.hid hb1
  have HI1 := Lib.hid hi1
  clear hb1 hi1
  go_wp2_with fail
  refine (asNodes_any ba b0 n hn _ HI1.out).mono ?_
  rintro e w2 h
  obtain ⟨bn, rfl, hb2, hn2⟩ := h
  have HB2 := Lib.hid (HB1.out.trans (hb2.mono HB1.out.size))
  have HI2 := Lib.hid (HI1.out.move (Keeps.below hb2))
  have HN2 := Lib.hid hn2
  clear hb2 hn2
  go_wp2_with fail
  refine (zzMem_n .nilIface (w2.heap.size + 1 + 1 + 1) (w2.heap.size + 1 + 1) w2.heap.size bn n inn pk pv opt _ (alloc_new' (by simp only [alloc_size])) ((Keeps.alloc _ _) _ _ (alloc_new' (by simp only [alloc_size]))) (((Keeps.alloc _ _).trans ((Keeps.alloc _ _).trans (Keeps.alloc _ _))) _ _ (alloc_new _ _)) (Or.inl ⟨rfl, HK1.out⟩)).mono ?_
  rintro e w6 hv
  have hret := hv.ret
  subst hret
  rcases hv with ⟨hno, _, hb6⟩ | ⟨hyes, _, q, hw6, hq, hroot, hbuilt⟩
  · have hr6 : w6.heap[w2.heap.size + 1 + 1 + 1]? = some (.cells #[(.iface 68 (.pointer (some ⟨w2.heap.size + 1 + 1, 0, none⟩)))] 54 (0, 0)) := Keeps.below hb6 _ _ (alloc_new' (by simp only [alloc_size]))
    have hm6 : w6.heap[w2.heap.size + 1 + 1]? = some (.cells (nd0 [(.iface 39 (.pointer (some ⟨w2.heap.size, 0, none⟩))), .nilIface, .bool opt, .bool false]) 70 (0, 0)) := Keeps.below hb6 _ _ ((Keeps.alloc _ _) _ _ (alloc_new' (by simp only [alloc_size])))
    have HI6 := Lib.hid (((Inn.of (inn := inn) HI2.out HN2.out (.nilIface) _).move ((Keeps.alloc _ _).trans (Keeps.alloc _ _))).move (Keeps.below hb6))
    have HB6 := Lib.hid ((((below2 HB2.out HB2.out.size _ _).alloc (by have := HB2.out.size; simp only [alloc_size]; omega) _).alloc (by have := HB2.out.size; simp only [alloc_size]; omega) _).trans (hb6.mono (by have := HB2.out.size; simp only [alloc_size]; omega)))
    have HNo := Lib.hid hno
    have c0 : w6.cell? ⟨w2.heap.size + 1 + 1 + 1, 0, none⟩ = some (.iface 68 (.pointer (some ⟨w2.heap.size + 1 + 1, 0, none⟩))) := by rw [cell_of_block hr6]; rfl
    have c1 : w6.cell? ⟨w2.heap.size + 1 + 1, 11, none⟩ = some (.iface 39 (.pointer (some ⟨w2.heap.size, 0, none⟩))) := by rw [cell_of_block hm6]; rfl
    have c2 : w6.cell? ⟨w2.heap.size + 1 + 1, 13, none⟩ = some (.bool opt) := by rw [cell_of_block hm6]; rfl
    have c3 : w6.cell? ⟨w2.heap.size, 11, none⟩ = some (.string inn) := by rw [cell_of_block HI6.out.inner]; rfl
    have c4 : w6.cell? ⟨w2.heap.size, 12, none⟩ = some (.slice (some ⟨bn, 0, none⟩) n n) := by rw [cell_of_block HI6.out.inner]; rfl
    have eMem := eql_ptr_same Tryz.underlying68 sMem
    have eBui := eql_ptr_same Tryz.underlying39 sBui
    clear hno hb6 hr6 hm6
    go_upto_region 20 with fail
    go_cut [1, 2, 4, 18] (fun s1 s2 s4 c wx => s1 = .int .i64 pv ∧ s2 = .bool opt ∧ s4 = .int .i64 n ∧ c = .bool false ∧ w6 = wx)
    case first =>
      go_wp2_with fail
      all_goals
        go_meet
        refine ⟨?_, ?_, ?_, ?_, rfl⟩
        · first | rfl | exact congrArg (Value.int .i64) (by omega)
        · first | rfl | (simp_all; done)
        · first | rfl | exact congrArg (Value.int .i64) (by omega)
        · first | rfl | exact congrArg Value.bool (MemRw.no_n HNo.out (by first | assumption | rfl) (by first | assumption | omega) (by first | assumption | rfl | (simp_all; done)) (by assumption))
    case rest =>
      obtain ⟨rfl, rfl, rfl, rfl, rfl⟩ := hcut
      go_wp2_with (first | (go_at_call 17; refine (asMem_yes _ _).mono ?_; rintro e w' ⟨rfl, rfl⟩) | (go_at_call 12; refine (asBui_yes _ _).mono ?_; rintro e w' ⟨rfl, rfl⟩) | (go_at_call 14; refine (sameIdents_yes ba b0 bn n hn _ HI6.out.ids HI6.out.nodes).mono ?_; rintro e w7 h7; obtain ⟨rfl, hb7⟩ := h7))
      go_ret
      exact ⟨rfl, HB6.out.trans (hb7.mono HB6.out.size)⟩
  · exact absurd hyes.1 HK1.out

set_option maxRecDepth 100000 in
set_option maxHeartbeats 8000000 in
theorem lawMem_num_false (pv : Int) (opt : Bool) (inn : ByteArray) (n : Nat) (hn : n ≤ 65536) (hs : inn.size ≤ 1048576) (w : World) :
    Calls Tryz.prog 4 #[.int .i64 1, .int .i64 pv, .bool opt, .string inn, .int .i64 n, .bool false] w (Yes w) := by
  go_enter Tryz.func4, Tryz.ntmps4
  go_wp2_with fail
  refine (bytesM _ _ _ _ _ _ _ hs).mono ?_
  rintro e w' ⟨rfl, rfl⟩
  go_wp2_with fail
  refine (idents_any n hn _).mono ?_
  rintro e w1 h
  obtain ⟨ba, b0, rfl, hb1, hi1⟩ := h
  have HB1 := Lib.hid hb1
  have HI1 := Lib.hid hi1
  clear hb1 hi1
  go_wp2_with fail
  refine (asNodes_any ba b0 n hn _ HI1.out).mono ?_
  rintro e w2 h
  obtain ⟨bn, rfl, hb2, hn2⟩ := h
  have HB2 := Lib.hid (HB1.out.trans (hb2.mono HB1.out.size))
  have HI2 := Lib.hid (HI1.out.move (Keeps.below hb2))
  have HN2 := Lib.hid hn2
  clear hb2 hn2
  go_wp2_with fail
  refine (zzMem_n (.iface 71 (.pointer (some ⟨w2.heap.size + 1 + 1 + 1, 0, none⟩))) (w2.heap.size + 1 + 1 + 1 + 1) (w2.heap.size + 1 + 1) w2.heap.size bn n inn 1 pv opt _ (alloc_new' (by simp only [alloc_size])) (((Keeps.alloc _ _).trans (Keeps.alloc _ _)) _ _ (alloc_new' (by simp only [alloc_size]))) (((Keeps.alloc _ _).trans (((Keeps.alloc _ _).trans (Keeps.alloc _ _)).trans (Keeps.alloc _ _))) _ _ (alloc_new _ _)) (Or.inr (Or.inr ⟨_, rfl, rfl, Keeps.alloc _ _ _ _ (alloc_new' (by simp only [alloc_size]))⟩))).mono ?_
  rintro e w6 hv
  have hret := hv.ret
  subst hret
  rcases hv with ⟨hno, _, hb6⟩ | ⟨hyes, _, q, hw6, hq, hroot, hbuilt⟩
  · have hr6 : w6.heap[w2.heap.size + 1 + 1 + 1 + 1]? = some (.cells #[(.iface 68 (.pointer (some ⟨w2.heap.size + 1 + 1, 0, none⟩)))] 54 (0, 0)) := Keeps.below hb6 _ _ (alloc_new' (by simp only [alloc_size]))
    have hm6 : w6.heap[w2.heap.size + 1 + 1]? = some (.cells (nd0 [(.iface 39 (.pointer (some ⟨w2.heap.size, 0, none⟩))), (.iface 71 (.pointer (some ⟨w2.heap.size + 1 + 1 + 1, 0, none⟩))), .bool opt, .bool false]) 70 (0, 0)) := Keeps.below hb6 _ _ (((Keeps.alloc _ _).trans (Keeps.alloc _ _)) _ _ (alloc_new' (by simp only [alloc_size])))
    have HI6 := Lib.hid (((Inn.of (inn := inn) HI2.out HN2.out (.nilIface) _).move (((Keeps.alloc _ _).trans (Keeps.alloc _ _)).trans (Keeps.alloc _ _))).move (Keeps.below hb6))
    have HB6 := Lib.hid (((((below2 HB2.out HB2.out.size _ _).alloc (by have := HB2.out.size; simp only [alloc_size]; omega) _).alloc (by have := HB2.out.size; simp only [alloc_size]; omega) _).alloc (by have := HB2.out.size; simp only [alloc_size]; omega) _).trans (hb6.mono (by have := HB2.out.size; simp only [alloc_size]; omega)))
    have HNo := Lib.hid hno
    have c0 : w6.cell? ⟨w2.heap.size + 1 + 1 + 1 + 1, 0, none⟩ = some (.iface 68 (.pointer (some ⟨w2.heap.size + 1 + 1, 0, none⟩))) := by rw [cell_of_block hr6]; rfl
    have c1 : w6.cell? ⟨w2.heap.size + 1 + 1, 11, none⟩ = some (.iface 39 (.pointer (some ⟨w2.heap.size, 0, none⟩))) := by rw [cell_of_block hm6]; rfl
    have c2 : w6.cell? ⟨w2.heap.size + 1 + 1, 13, none⟩ = some (.bool opt) := by rw [cell_of_block hm6]; rfl
    have c3 : w6.cell? ⟨w2.heap.size, 11, none⟩ = some (.string inn) := by rw [cell_of_block HI6.out.inner]; rfl
    have c4 : w6.cell? ⟨w2.heap.size, 12, none⟩ = some (.slice (some ⟨bn, 0, none⟩) n n) := by rw [cell_of_block HI6.out.inner]; rfl
    have eMem := eql_ptr_same Tryz.underlying68 sMem
    have eBui := eql_ptr_same Tryz.underlying39 sBui
    clear hno hb6 hr6 hm6
    go_upto_region 20 with fail
    go_cut [1, 2, 4, 18] (fun s1 s2 s4 c wx => s1 = .int .i64 pv ∧ s2 = .bool opt ∧ s4 = .int .i64 n ∧ c = .bool false ∧ w6 = wx)
    case first =>
      go_wp2_with fail
      all_goals
        go_meet
        refine ⟨?_, ?_, ?_, ?_, rfl⟩
        · first | rfl | exact congrArg (Value.int .i64) (by omega)
        · first | rfl | (simp_all; done)
        · first | rfl | exact congrArg (Value.int .i64) (by omega)
        · first | rfl | exact congrArg Value.bool (MemRw.no_n HNo.out (by first | assumption | rfl) (by first | assumption | omega) (by first | assumption | rfl | (simp_all; done)) (by assumption))
    case rest =>
      obtain ⟨rfl, rfl, rfl, rfl, rfl⟩ := hcut
      go_wp2_with (first | (go_at_call 17; refine (asMem_yes _ _).mono ?_; rintro e w' ⟨rfl, rfl⟩) | (go_at_call 12; refine (asBui_yes _ _).mono ?_; rintro e w' ⟨rfl, rfl⟩) | (go_at_call 14; refine (sameIdents_yes ba b0 bn n hn _ HI6.out.ids HI6.out.nodes).mono ?_; rintro e w7 h7; obtain ⟨rfl, hb7⟩ := h7))
      go_ret
      exact ⟨rfl, HB6.out.trans (hb7.mono HB6.out.size)⟩
  · obtain ⟨_, rfl, rfl, hf1, hf2⟩ := hyes
    obtain rfl : n = 2 := by omega
    have HI6 := Lib.hid (((Inn.of (inn := inn) HI2.out HN2.out (.nilIface) _).move ((Keeps.alloc _ _).trans (Keeps.alloc _ _))).move (keepsRoot (by simp only [alloc_size]) hw6))
    have HB6 := Lib.hid (((((below2 HB2.out HB2.out.size _ _).alloc (by have := HB2.out.size; simp only [alloc_size]; omega) _).alloc (by have := HB2.out.size; simp only [alloc_size]; omega) _).alloc (by have := HB2.out.size; simp only [alloc_size]; omega) _).trans (hw6.below (by have := HB2.out.size; simp only [alloc_size]; omega) (by have := HB2.out.size; simp; omega)))
    have c0 : w6.cell? ⟨w2.heap.size + 1 + 1 + 1 + 1, 0, none⟩ = some (.iface 39 (.pointer (some ⟨q, 0, none⟩))) := by rw [cell_of_block hroot]; rfl
    have c1 : w6.cell? ⟨q, 11, none⟩ = some (.string ⟨#[102, 105, 110, 100, 76, 97, 115, 116]⟩) := by rw [cell_of_block hbuilt]; rfl
    have c2 : w6.cell? ⟨q, 12, none⟩ = some (.slice (some ⟨bn, 0, none⟩) 2 2) := by rw [cell_of_block hbuilt]; rfl
    have c3 : w6.cell? ⟨q, 13, none⟩ = some (.bool true) := by rw [cell_of_block hbuilt]; rfl
    have d4 : w6.cell? ⟨q, 14, none⟩ = some (.nilIface) := by rw [cell_of_block hbuilt]; rfl
    have nNil := eqNilBui q
    clear hf2 hw6 hq hroot hbuilt
    go_wp2_with (go_at_call 12; refine (asBui_yes _ _).mono ?_; rintro e w' ⟨rfl, rfl⟩)
    refine (sameIdents_yes ba b0 bn 2 hn _ HI6.out.ids HI6.out.nodes).mono ?_
    rintro e w7 h7
    obtain ⟨rfl, hb7⟩ := h7
    have HB7 := Lib.hid (HB6.out.trans (hb7.mono HB6.out.size))
    have e5 : w7.cell? ⟨q, 14, none⟩ = some (.nilIface) := (Keeps.below hb7).cell d4
    have eNil := eqNilNode
    have eId := eql_ptr_same Tryz.underlying58 sId
    clear hb7
    go_wp2_with (go_at_call 18; refine (asId_yes _ _).mono ?_; rintro e w' ⟨rfl, rfl⟩)
    go_ret
    exact ⟨rfl, HB7.out⟩

set_option maxRecDepth 100000 in
set_option maxHeartbeats 8000000 in
theorem lawMem_str_false (pv : Int) (opt : Bool) (inn : ByteArray) (n : Nat) (hn : n ≤ 65536) (hs : inn.size ≤ 1048576) (w : World) :
    Calls Tryz.prog 4 #[.int .i64 2, .int .i64 pv, .bool opt, .string inn, .int .i64 n, .bool false] w (Yes w) := by
  go_enter Tryz.func4, Tryz.ntmps4
  go_wp2_with fail
  refine (bytesM _ _ _ _ _ _ _ hs).mono ?_
  rintro e w' ⟨rfl, rfl⟩
  go_wp2_with fail
  refine (idents_any n hn _).mono ?_
  rintro e w1 h
  obtain ⟨ba, b0, rfl, hb1, hi1⟩ := h
  have HB1 := Lib.hid hb1
  have HI1 := Lib.hid hi1
  clear hb1 hi1
  go_wp2_with fail
  refine (asNodes_any ba b0 n hn _ HI1.out).mono ?_
  rintro e w2 h
  obtain ⟨bn, rfl, hb2, hn2⟩ := h
  have HB2 := Lib.hid (HB1.out.trans (hb2.mono HB1.out.size))
  have HI2 := Lib.hid (HI1.out.move (Keeps.below hb2))
  have HN2 := Lib.hid hn2
  clear hb2 hn2
  go_wp2_with fail
  refine (zzMem_n (.iface 74 (.pointer (some ⟨w2.heap.size + 1 + 1 + 1, 0, none⟩))) (w2.heap.size + 1 + 1 + 1 + 1) (w2.heap.size + 1 + 1) w2.heap.size bn n inn 2 pv opt _ (alloc_new' (by simp only [alloc_size])) (((Keeps.alloc _ _).trans (Keeps.alloc _ _)) _ _ (alloc_new' (by simp only [alloc_size]))) (((Keeps.alloc _ _).trans (((Keeps.alloc _ _).trans (Keeps.alloc _ _)).trans (Keeps.alloc _ _))) _ _ (alloc_new _ _)) (Or.inr (Or.inl ⟨_, rfl, by decide⟩))).mono ?_
  rintro e w6 hv
  have hret := hv.ret
  subst hret
  rcases hv with ⟨hno, _, hb6⟩ | ⟨hyes, _, q, hw6, hq, hroot, hbuilt⟩
  · have hr6 : w6.heap[w2.heap.size + 1 + 1 + 1 + 1]? = some (.cells #[(.iface 68 (.pointer (some ⟨w2.heap.size + 1 + 1, 0, none⟩)))] 54 (0, 0)) := Keeps.below hb6 _ _ (alloc_new' (by simp only [alloc_size]))
    have hm6 : w6.heap[w2.heap.size + 1 + 1]? = some (.cells (nd0 [(.iface 39 (.pointer (some ⟨w2.heap.size, 0, none⟩))), (.iface 74 (.pointer (some ⟨w2.heap.size + 1 + 1 + 1, 0, none⟩))), .bool opt, .bool false]) 70 (0, 0)) := Keeps.below hb6 _ _ (((Keeps.alloc _ _).trans (Keeps.alloc _ _)) _ _ (alloc_new' (by simp only [alloc_size])))
    have HI6 := Lib.hid (((Inn.of (inn := inn) HI2.out HN2.out (.nilIface) _).move (((Keeps.alloc _ _).trans (Keeps.alloc _ _)).trans (Keeps.alloc _ _))).move (Keeps.below hb6))
    have HB6 := Lib.hid (((((below2 HB2.out HB2.out.size _ _).alloc (by have := HB2.out.size; simp only [alloc_size]; omega) _).alloc (by have := HB2.out.size; simp only [alloc_size]; omega) _).alloc (by have := HB2.out.size; simp only [alloc_size]; omega) _).trans (hb6.mono (by have := HB2.out.size; simp only [alloc_size]; omega)))
    have HNo := Lib.hid hno
    have c0 : w6.cell? ⟨w2.heap.size + 1 + 1 + 1 + 1, 0, none⟩ = some (.iface 68 (.pointer (some ⟨w2.heap.size + 1 + 1, 0, none⟩))) := by rw [cell_of_block hr6]; rfl
    have c1 : w6.cell? ⟨w2.heap.size + 1 + 1, 11, none⟩ = some (.iface 39 (.pointer (some ⟨w2.heap.size, 0, none⟩))) := by rw [cell_of_block hm6]; rfl
    have c2 : w6.cell? ⟨w2.heap.size + 1 + 1, 13, none⟩ = some (.bool opt) := by rw [cell_of_block hm6]; rfl
    have c3 : w6.cell? ⟨w2.heap.size, 11, none⟩ = some (.string inn) := by rw [cell_of_block HI6.out.inner]; rfl
    have c4 : w6.cell? ⟨w2.heap.size, 12, none⟩ = some (.slice (some ⟨bn, 0, none⟩) n n) := by rw [cell_of_block HI6.out.inner]; rfl
    have eMem := eql_ptr_same Tryz.underlying68 sMem
    have eBui := eql_ptr_same Tryz.underlying39 sBui
    clear hno hb6 hr6 hm6
    go_upto_region 20 with fail
    go_cut [1, 2, 4, 18] (fun s1 s2 s4 c wx => s1 = .int .i64 pv ∧ s2 = .bool opt ∧ s4 = .int .i64 n ∧ c = .bool false ∧ w6 = wx)
    case first =>
      go_wp2_with fail
      all_goals
        go_meet
        refine ⟨?_, ?_, ?_, ?_, rfl⟩
        · first | rfl | exact congrArg (Value.int .i64) (by omega)
        · first | rfl | (simp_all; done)
        · first | rfl | exact congrArg (Value.int .i64) (by omega)
        · first | rfl | exact congrArg Value.bool (MemRw.no_n HNo.out (by first | assumption | rfl) (by first | assumption | omega) (by first | assumption | rfl | (simp_all; done)) (by assumption))
    case rest =>
      obtain ⟨rfl, rfl, rfl, rfl, rfl⟩ := hcut
      go_wp2_with (first | (go_at_call 17; refine (asMem_yes _ _).mono ?_; rintro e w' ⟨rfl, rfl⟩) | (go_at_call 12; refine (asBui_yes _ _).mono ?_; rintro e w' ⟨rfl, rfl⟩) | (go_at_call 14; refine (sameIdents_yes ba b0 bn n hn _ HI6.out.ids HI6.out.nodes).mono ?_; rintro e w7 h7; obtain ⟨rfl, hb7⟩ := h7))
      go_ret
      exact ⟨rfl, HB6.out.trans (hb7.mono HB6.out.size)⟩
  · exact absurd hyes.1 (by decide)

set_option maxRecDepth 100000 in
set_option maxHeartbeats 8000000 in
theorem lawMem_no_true (pk pv : Int) (opt : Bool) (inn : ByteArray) (n : Nat) (hn : n ≤ 65536) (hs : inn.size ≤ 1048576) (w : World) (hk1 : pk ≠ 1) (hk2 : pk ≠ 2) :
    Calls Tryz.prog 4 #[.int .i64 pk, .int .i64 pv, .bool opt, .string inn, .int .i64 n, .bool true] w (Yes w) := by
  have k1 : (pk == 1) = false := by simp; omega
  have k2 : (pk == 2) = false := by simp; omega
  have HK1 := Lib.hid hk1
  clear hk1 hk2
  go_enter Tryz.func4, Tryz.ntmps4
  go_wp2_with fail
  refine (bytesM _ _ _ _ _ _ _ hs).mono ?_
  rintro e w' ⟨rfl, rfl⟩
  go_wp2_with fail
  refine (idents_any n hn _).mono ?_
  rintro e w1 h
  obtain ⟨ba, b0, rfl, hb1, hi1⟩ := h
  have HB1 := Lib.hid hb1
  have HI1 := Lib.hid hi1
  clear hb1 hi1
  go_wp2_with fail
  refine (asNodes_any ba b0 n hn _ HI1.out).mono ?_
  rintro e w2 h
  obtain ⟨bn, rfl, hb2, hn2⟩ := h
  have HB2 := Lib.hid (HB1.out.trans (hb2.mono HB1.out.size))
  have HI2 := Lib.hid (HI1.out.move (Keeps.below hb2))
  have HN2 := Lib.hid hn2
  clear hb2 hn2
  go_wp2_with fail
  refine (zzMem_m .nilIface (w2.heap.size + 1 + 1 + 1) (w2.heap.size + 1 + 1) w2.heap.size bn n inn pk pv opt (w2.heap.size + 1) _ (alloc_new' (by simp only [alloc_size])) ((Keeps.alloc _ _) _ _ (alloc_new' (by simp only [alloc_size]))) (((Keeps.alloc _ _).trans ((Keeps.alloc _ _).trans (Keeps.alloc _ _))) _ _ (alloc_new _ _)) (Or.inl ⟨rfl, HK1.out⟩)).mono ?_
  rintro e w6 hv
  have hret := hv.ret
  subst hret
  rcases hv with ⟨hno, _, hb6⟩ | ⟨hyes, _, q, hw6, hq, hroot, hbuilt⟩
  · have hr6 : w6.heap[w2.heap.size + 1 + 1 + 1]? = some (.cells #[(.iface 68 (.pointer (some ⟨w2.heap.size + 1 + 1, 0, none⟩)))] 54 (0, 0)) := Keeps.below hb6 _ _ (alloc_new' (by simp only [alloc_size]))
    have hm6 : w6.heap[w2.heap.size + 1 + 1]? = some (.cells (nd0 [(.iface 39 (.pointer (some ⟨w2.heap.size, 0, none⟩))), .nilIface, .bool opt, .bool false]) 70 (0, 0)) := Keeps.below hb6 _ _ ((Keeps.alloc _ _) _ _ (alloc_new' (by simp only [alloc_size])))
    have HI6 := Lib.hid (((Inn.of (inn := inn) HI2.out HN2.out (.iface 58 (.pointer (some ⟨w2.heap.size + 1, 0, none⟩))) _).move ((Keeps.alloc _ _).trans (Keeps.alloc _ _))).move (Keeps.below hb6))
    have HB6 := Lib.hid ((((below2 HB2.out HB2.out.size _ _).alloc (by have := HB2.out.size; simp only [alloc_size]; omega) _).alloc (by have := HB2.out.size; simp only [alloc_size]; omega) _).trans (hb6.mono (by have := HB2.out.size; simp only [alloc_size]; omega)))
    have HNo := Lib.hid hno
    have c0 : w6.cell? ⟨w2.heap.size + 1 + 1 + 1, 0, none⟩ = some (.iface 68 (.pointer (some ⟨w2.heap.size + 1 + 1, 0, none⟩))) := by rw [cell_of_block hr6]; rfl
    have c1 : w6.cell? ⟨w2.heap.size + 1 + 1, 11, none⟩ = some (.iface 39 (.pointer (some ⟨w2.heap.size, 0, none⟩))) := by rw [cell_of_block hm6]; rfl
    have c2 : w6.cell? ⟨w2.heap.size + 1 + 1, 13, none⟩ = some (.bool opt) := by rw [cell_of_block hm6]; rfl
    have c3 : w6.cell? ⟨w2.heap.size, 11, none⟩ = some (.string inn) := by rw [cell_of_block HI6.out.inner]; rfl
    have c4 : w6.cell? ⟨w2.heap.size, 12, none⟩ = some (.slice (some ⟨bn, 0, none⟩) n n) := by rw [cell_of_block HI6.out.inner]; rfl
    have eMem := eql_ptr_same Tryz.underlying68 sMem
    have eBui := eql_ptr_same Tryz.underlying39 sBui
    clear hno hb6 hr6 hm6
    go_upto_region 20 with fail
    go_cut [1, 2, 4, 18] (fun s1 s2 s4 c wx => s1 = .int .i64 pv ∧ s2 = .bool opt ∧ s4 = .int .i64 n ∧ c = .bool false ∧ w6 = wx)
    case first =>
      go_wp2_with fail
      all_goals
        go_meet
        refine ⟨?_, ?_, ?_, ?_, rfl⟩
        · first | rfl | exact congrArg (Value.int .i64) (by omega)
        · first | rfl | (simp_all; done)
        · first | rfl | exact congrArg (Value.int .i64) (by omega)
        · first | rfl | exact congrArg Value.bool (MemRw.no_n HNo.out (by first | assumption | rfl) (by first | assumption | omega) (by first | assumption | rfl | (simp_all; done)) (by assumption))
    case rest =>
      obtain ⟨rfl, rfl, rfl, rfl, rfl⟩ := hcut
      go_wp2_with (first | (go_at_call 17; refine (asMem_yes _ _).mono ?_; rintro e w' ⟨rfl, rfl⟩) | (go_at_call 12; refine (asBui_yes _ _).mono ?_; rintro e w' ⟨rfl, rfl⟩) | (go_at_call 14; refine (sameIdents_yes ba b0 bn n hn _ HI6.out.ids HI6.out.nodes).mono ?_; rintro e w7 h7; obtain ⟨rfl, hb7⟩ := h7))
      go_ret
      exact ⟨rfl, HB6.out.trans (hb7.mono HB6.out.size)⟩
  · exact absurd hyes.1 HK1.out

set_option maxRecDepth 100000 in
set_option maxHeartbeats 8000000 in
theorem lawMem_num_true (pv : Int) (opt : Bool) (inn : ByteArray) (n : Nat) (hn : n ≤ 65536) (hs : inn.size ≤ 1048576) (w : World) :
    Calls Tryz.prog 4 #[.int .i64 1, .int .i64 pv, .bool opt, .string inn, .int .i64 n, .bool true] w (Yes w) := by
  go_enter Tryz.func4, Tryz.ntmps4
  go_wp2_with fail
  refine (bytesM _ _ _ _ _ _ _ hs).mono ?_
  rintro e w' ⟨rfl, rfl⟩
  go_wp2_with fail
  refine (idents_any n hn _).mono ?_
  rintro e w1 h
  obtain ⟨ba, b0, rfl, hb1, hi1⟩ := h
  have HB1 := Lib.hid hb1
  have HI1 := Lib.hid hi1
  clear hb1 hi1
  go_wp2_with fail
  refine (asNodes_any ba b0 n hn _ HI1.out).mono ?_
  rintro e w2 h
  obtain ⟨bn, rfl, hb2, hn2⟩ := h
  have HB2 := Lib.hid (HB1.out.trans (hb2.mono HB1.out.size))
  have HI2 := Lib.hid (HI1.out.move (Keeps.below hb2))
  have HN2 := Lib.hid hn2
  clear hb2 hn2
  go_wp2_with fail
  refine (zzMem_m (.iface 71 (.pointer (some ⟨w2.heap.size + 1 + 1 + 1, 0, none⟩))) (w2.heap.size + 1 + 1 + 1 + 1) (w2.heap.size + 1 + 1) w2.heap.size bn n inn 1 pv opt (w2.heap.size + 1) _ (alloc_new' (by simp only [alloc_size])) (((Keeps.alloc _ _).trans (Keeps.alloc _ _)) _ _ (alloc_new' (by simp only [alloc_size]))) (((Keeps.alloc _ _).trans (((Keeps.alloc _ _).trans (Keeps.alloc _ _)).trans (Keeps.alloc _ _))) _ _ (alloc_new _ _)) (Or.inr (Or.inr ⟨_, rfl, rfl, Keeps.alloc _ _ _ _ (alloc_new' (by simp only [alloc_size]))⟩))).mono ?_
  rintro e w6 hv
  have hret := hv.ret
  subst hret
  rcases hv with ⟨hno, _, hb6⟩ | ⟨hyes, _, q, hw6, hq, hroot, hbuilt⟩
  · have hr6 : w6.heap[w2.heap.size + 1 + 1 + 1 + 1]? = some (.cells #[(.iface 68 (.pointer (some ⟨w2.heap.size + 1 + 1, 0, none⟩)))] 54 (0, 0)) := Keeps.below hb6 _ _ (alloc_new' (by simp only [alloc_size]))
    have hm6 : w6.heap[w2.heap.size + 1 + 1]? = some (.cells (nd0 [(.iface 39 (.pointer (some ⟨w2.heap.size, 0, none⟩))), (.iface 71 (.pointer (some ⟨w2.heap.size + 1 + 1 + 1, 0, none⟩))), .bool opt, .bool false]) 70 (0, 0)) := Keeps.below hb6 _ _ (((Keeps.alloc _ _).trans (Keeps.alloc _ _)) _ _ (alloc_new' (by simp only [alloc_size])))
    have HI6 := Lib.hid (((Inn.of (inn := inn) HI2.out HN2.out (.iface 58 (.pointer (some ⟨w2.heap.size + 1, 0, none⟩))) _).move (((Keeps.alloc _ _).trans (Keeps.alloc _ _)).trans (Keeps.alloc _ _))).move (Keeps.below hb6))
    have HB6 := Lib.hid (((((below2 HB2.out HB2.out.size _ _).alloc (by have := HB2.out.size; simp only [alloc_size]; omega) _).alloc (by have := HB2.out.size; simp only [alloc_size]; omega) _).alloc (by have := HB2.out.size; simp only [alloc_size]; omega) _).trans (hb6.mono (by have := HB2.out.size; simp only [alloc_size]; omega)))
    have HNo := Lib.hid hno
    have c0 : w6.cell? ⟨w2.heap.size + 1 + 1 + 1 + 1, 0, none⟩ = some (.iface 68 (.pointer (some ⟨w2.heap.size + 1 + 1, 0, none⟩))) := by rw [cell_of_block hr6]; rfl
    have c1 : w6.cell? ⟨w2.heap.size + 1 + 1, 11, none⟩ = some (.iface 39 (.pointer (some ⟨w2.heap.size, 0, none⟩))) := by rw [cell_of_block hm6]; rfl
    have c2 : w6.cell? ⟨w2.heap.size + 1 + 1, 13, none⟩ = some (.bool opt) := by rw [cell_of_block hm6]; rfl
    have c3 : w6.cell? ⟨w2.heap.size, 11, none⟩ = some (.string inn) := by rw [cell_of_block HI6.out.inner]; rfl
    have c4 : w6.cell? ⟨w2.heap.size, 12, none⟩ = some (.slice (some ⟨bn, 0, none⟩) n n) := by rw [cell_of_block HI6.out.inner]; rfl
    have eMem := eql_ptr_same Tryz.underlying68 sMem
    have eBui := eql_ptr_same Tryz.underlying39 sBui
    clear hno hb6 hr6 hm6
    go_upto_region 20 with fail
    go_cut [1, 2, 4, 18] (fun s1 s2 s4 c wx => s1 = .int .i64 pv ∧ s2 = .bool opt ∧ s4 = .int .i64 n ∧ c = .bool false ∧ w6 = wx)
    case first =>
      go_wp2_with fail
      all_goals
        go_meet
        refine ⟨?_, ?_, ?_, ?_, rfl⟩
        · first | rfl | exact congrArg (Value.int .i64) (by omega)
        · first | rfl | (simp_all; done)
        · first | rfl | exact congrArg (Value.int .i64) (by omega)
        · first | rfl | exact congrArg Value.bool (MemRw.no_n HNo.out (by first | assumption | rfl) (by first | assumption | omega) (by first | assumption | rfl | (simp_all; done)) (by assumption))
    case rest =>
      obtain ⟨rfl, rfl, rfl, rfl, rfl⟩ := hcut
      go_wp2_with (first | (go_at_call 17; refine (asMem_yes _ _).mono ?_; rintro e w' ⟨rfl, rfl⟩) | (go_at_call 12; refine (asBui_yes _ _).mono ?_; rintro e w' ⟨rfl, rfl⟩) | (go_at_call 14; refine (sameIdents_yes ba b0 bn n hn _ HI6.out.ids HI6.out.nodes).mono ?_; rintro e w7 h7; obtain ⟨rfl, hb7⟩ := h7))
      go_ret
      exact ⟨rfl, HB6.out.trans (hb7.mono HB6.out.size)⟩
  · obtain ⟨_, rfl, rfl, hf1, hf2⟩ := hyes
    obtain rfl : n = 2 := by omega
    have HI6 := Lib.hid (((Inn.of (inn := inn) HI2.out HN2.out (.iface 58 (.pointer (some ⟨w2.heap.size + 1, 0, none⟩))) _).move ((Keeps.alloc _ _).trans (Keeps.alloc _ _))).move (keepsRoot (by simp only [alloc_size]) hw6))
    have HB6 := Lib.hid (((((below2 HB2.out HB2.out.size _ _).alloc (by have := HB2.out.size; simp only [alloc_size]; omega) _).alloc (by have := HB2.out.size; simp only [alloc_size]; omega) _).alloc (by have := HB2.out.size; simp only [alloc_size]; omega) _).trans (hw6.below (by have := HB2.out.size; simp only [alloc_size]; omega) (by have := HB2.out.size; simp; omega)))
    have c0 : w6.cell? ⟨w2.heap.size + 1 + 1 + 1 + 1, 0, none⟩ = some (.iface 39 (.pointer (some ⟨q, 0, none⟩))) := by rw [cell_of_block hroot]; rfl
    have c1 : w6.cell? ⟨q, 11, none⟩ = some (.string ⟨#[102, 105, 110, 100, 76, 97, 115, 116]⟩) := by rw [cell_of_block hbuilt]; rfl
    have c2 : w6.cell? ⟨q, 12, none⟩ = some (.slice (some ⟨bn, 0, none⟩) 2 2) := by rw [cell_of_block hbuilt]; rfl
    have c3 : w6.cell? ⟨q, 13, none⟩ = some (.bool true) := by rw [cell_of_block hbuilt]; rfl
    have d4 : w6.cell? ⟨q, 14, none⟩ = some (.iface 58 (.pointer (some ⟨w2.heap.size + 1, 0, none⟩))) := by rw [cell_of_block hbuilt]; rfl
    have nNil := eqNilBui q
    clear hf2 hw6 hq hroot hbuilt
    go_wp2_with (go_at_call 12; refine (asBui_yes _ _).mono ?_; rintro e w' ⟨rfl, rfl⟩)
    refine (sameIdents_yes ba b0 bn 2 hn _ HI6.out.ids HI6.out.nodes).mono ?_
    rintro e w7 h7
    obtain ⟨rfl, hb7⟩ := h7
    have HB7 := Lib.hid (HB6.out.trans (hb7.mono HB6.out.size))
    have e5 : w7.cell? ⟨q, 14, none⟩ = some (.iface 58 (.pointer (some ⟨w2.heap.size + 1, 0, none⟩))) := (Keeps.below hb7).cell d4
    have eNil := eqNilNode
    have eId := eql_ptr_same Tryz.underlying58 sId
    clear hb7
    go_wp2_with (go_at_call 18; refine (asId_yes _ _).mono ?_; rintro e w' ⟨rfl, rfl⟩)
    go_ret
    exact ⟨rfl, HB7.out⟩

set_option maxRecDepth 100000 in
set_option maxHeartbeats 8000000 in
theorem lawMem_str_true (pv : Int) (opt : Bool) (inn : ByteArray) (n : Nat) (hn : n ≤ 65536) (hs : inn.size ≤ 1048576) (w : World) :
    Calls Tryz.prog 4 #[.int .i64 2, .int .i64 pv, .bool opt, .string inn, .int .i64 n, .bool true] w (Yes w) := by
  go_enter Tryz.func4, Tryz.ntmps4
  go_wp2_with fail
  refine (bytesM _ _ _ _ _ _ _ hs).mono ?_
  rintro e w' ⟨rfl, rfl⟩
  go_wp2_with fail
  refine (idents_any n hn _).mono ?_
  rintro e w1 h
  obtain ⟨ba, b0, rfl, hb1, hi1⟩ := h
  have HB1 := Lib.hid hb1
  have HI1 := Lib.hid hi1
  clear hb1 hi1
  go_wp2_with fail
  refine (asNodes_any ba b0 n hn _ HI1.out).mono ?_
  rintro e w2 h
  obtain ⟨bn, rfl, hb2, hn2⟩ := h
  have HB2 := Lib.hid (HB1.out.trans (hb2.mono HB1.out.size))
  have HI2 := Lib.hid (HI1.out.move (Keeps.below hb2))
  have HN2 := Lib.hid hn2
  clear hb2 hn2
  go_wp2_with fail
  refine (zzMem_m (.iface 74 (.pointer (some ⟨w2.heap.size + 1 + 1 + 1, 0, none⟩))) (w2.heap.size + 1 + 1 + 1 + 1) (w2.heap.size + 1 + 1) w2.heap.size bn n inn 2 pv opt (w2.heap.size + 1) _ (alloc_new' (by simp only [alloc_size])) (((Keeps.alloc _ _).trans (Keeps.alloc _ _)) _ _ (alloc_new' (by simp only [alloc_size]))) (((Keeps.alloc _ _).trans (((Keeps.alloc _ _).trans (Keeps.alloc _ _)).trans (Keeps.alloc _ _))) _ _ (alloc_new _ _)) (Or.inr (Or.inl ⟨_, rfl, by decide⟩))).mono ?_
  rintro e w6 hv
  have hret := hv.ret
  subst hret
  rcases hv with ⟨hno, _, hb6⟩ | ⟨hyes, _, q, hw6, hq, hroot, hbuilt⟩
  · have hr6 : w6.heap[w2.heap.size + 1 + 1 + 1 + 1]? = some (.cells #[(.iface 68 (.pointer (some ⟨w2.heap.size + 1 + 1, 0, none⟩)))] 54 (0, 0)) := Keeps.below hb6 _ _ (alloc_new' (by simp only [alloc_size]))
    have hm6 : w6.heap[w2.heap.size + 1 + 1]? = some (.cells (nd0 [(.iface 39 (.pointer (some ⟨w2.heap.size, 0, none⟩))), (.iface 74 (.pointer (some ⟨w2.heap.size + 1 + 1 + 1, 0, none⟩))), .bool opt, .bool false]) 70 (0, 0)) := Keeps.below hb6 _ _ (((Keeps.alloc _ _).trans (Keeps.alloc _ _)) _ _ (alloc_new' (by simp only [alloc_size])))
    have HI6 := Lib.hid (((Inn.of (inn := inn) HI2.out HN2.out (.iface 58 (.pointer (some ⟨w2.heap.size + 1, 0, none⟩))) _).move (((Keeps.alloc _ _).trans (Keeps.alloc _ _)).trans (Keeps.alloc _ _))).move (Keeps.below hb6))
    have HB6 := Lib.hid (((((below2 HB2.out HB2.out.size _ _).alloc (by have := HB2.out.size; simp only [alloc_size]; omega) _).alloc (by have := HB2.out.size; simp only [alloc_size]; omega) _).alloc (by have := HB2.out.size; simp only [alloc_size]; omega) _).trans (hb6.mono (by have := HB2.out.size; simp only [alloc_size]; omega)))
    have HNo := Lib.hid hno
    have c0 : w6.cell? ⟨w2.heap.size + 1 + 1 + 1 + 1, 0, none⟩ = some (.iface 68 (.pointer (some ⟨w2.heap.size + 1 + 1, 0, none⟩))) := by rw [cell_of_block hr6]; rfl
    have c1 : w6.cell? ⟨w2.heap.size + 1 + 1, 11, none⟩ = some (.iface 39 (.pointer (some ⟨w2.heap.size, 0, none⟩))) := by rw [cell_of_block hm6]; rfl
    have c2 : w6.cell? ⟨w2.heap.size + 1 + 1, 13, none⟩ = some (.bool opt) := by rw [cell_of_block hm6]; rfl
    have c3 : w6.cell? ⟨w2.heap.size, 11, none⟩ = some (.string inn) := by rw [cell_of_block HI6.out.inner]; rfl
    have c4 : w6.cell? ⟨w2.heap.size, 12, none⟩ = some (.slice (some ⟨bn, 0, none⟩) n n) := by rw [cell_of_block HI6.out.inner]; rfl
    have eMem := eql_ptr_same Tryz.underlying68 sMem
    have eBui := eql_ptr_same Tryz.underlying39 sBui
    clear hno hb6 hr6 hm6
    go_upto_region 20 with fail
    go_cut [1, 2, 4, 18] (fun s1 s2 s4 c wx => s1 = .int .i64 pv ∧ s2 = .bool opt ∧ s4 = .int .i64 n ∧ c = .bool false ∧ w6 = wx)
    case first =>
      go_wp2_with fail
      all_goals
        go_meet
        refine ⟨?_, ?_, ?_, ?_, rfl⟩
        · first | rfl | exact congrArg (Value.int .i64) (by omega)
        · first | rfl | (simp_all; done)
        · first | rfl | exact congrArg (Value.int .i64) (by omega)
        · first | rfl | exact congrArg Value.bool (MemRw.no_n HNo.out (by first | assumption | rfl) (by first | assumption | omega) (by first | assumption | rfl | (simp_all; done)) (by assumption))
    case rest =>
      obtain ⟨rfl, rfl, rfl, rfl, rfl⟩ := hcut
      go_wp2_with (first | (go_at_call 17; refine (asMem_yes _ _).mono ?_; rintro e w' ⟨rfl, rfl⟩) | (go_at_call 12; refine (asBui_yes _ _).mono ?_; rintro e w' ⟨rfl, rfl⟩) | (go_at_call 14; refine (sameIdents_yes ba b0 bn n hn _ HI6.out.ids HI6.out.nodes).mono ?_; rintro e w7 h7; obtain ⟨rfl, hb7⟩ := h7))
      go_ret
      exact ⟨rfl, HB6.out.trans (hb7.mono HB6.out.size)⟩
  · exact absurd hyes.1 (by decide)

set_option maxRecDepth 100000 in
set_option maxHeartbeats 8000000 in
/-- THE WALK: at every input. -/
theorem lawMem (pk pv : Int) (opt : Bool) (inn : ByteArray) (n : Int) (wm : Bool) (w : World) (h1 : inn.size ≤ maxLen) :
    Calls Tryz.prog 4 #[.int .i64 pk, .int .i64 pv, .bool opt, .string inn, .int .i64 n, .bool wm] w (Yes w) := by
  by_cases hok : inn.size ≤ 1048576 ∧ (0 ≤ n ∧ n ≤ 65536)
  · obtain ⟨g1, g5, g6⟩ := hok
    obtain ⟨n, rfl⟩ := Int.eq_ofNat_of_zero_le g5
    have hn : n ≤ 65536 := by omega
    by_cases e1 : pk = 1
    · subst e1
      cases wm
      · exact lawMem_num_false pv opt inn n hn g1 w
      · exact lawMem_num_true pv opt inn n hn g1 w
    · by_cases e2 : pk = 2
      · subst e2
        cases wm
        · exact lawMem_str_false pv opt inn n hn g1 w
        · exact lawMem_str_true pv opt inn n hn g1 w
      · cases wm
        · exact lawMem_no_false pk pv opt inn n hn g1 w e1 e2
        · exact lawMem_no_true pk pv opt inn n hn g1 w e1 e2
  · have m1 := h1
    unfold maxLen at h1
    have HN := Lib.hid hok
    clear hok
    go_enter Tryz.func4, Tryz.ntmps4
    go_wp2_with fail
    refine (bytesM_any _ _ _ _ _ _ _ m1).mono ?_
    rintro e w' h
    obtain ⟨b, rfl, hb, rfl⟩ := h
    cases b
    · go_wp2_with fail
      go_ret
      exact ⟨rfl, Below.refl _ _⟩
    · have hs := hb rfl
      clear hb
      go_wp2_with fail
      all_goals first
        | (go_ret; exact ⟨rfl, Below.refl _ _⟩)
        | (exfalso; refine HN.out ?_; refine ⟨by omega, by omega, by omega⟩)
end Go.Proofs.YtglhhfeaopjinaaGreat

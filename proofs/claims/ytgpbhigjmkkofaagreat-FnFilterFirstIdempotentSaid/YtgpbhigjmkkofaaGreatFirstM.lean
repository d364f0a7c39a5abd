/- FnFilterFirstIdempotent: the walk: true at every input. -/
import Derived.Test.YtgpbhigjmkkofaaGreatFirstK
namespace Go.Proofs.YtgpbhigjmkkofaaGreat
open Go.RowKit Go.Deep

set_option maxRecDepth 100000 in
set_option maxHeartbeats 1000000 in
theorem bytesFI (k m pk pv ik n : Int) (opt wm : Bool) (on inn : ByteArray) (w : World) (h1 : on.size ≤ 65536) (h2 : inn.size ≤ 65536) :
    Calls Tryz.prog 25 #[.int .i64 k, .string on, .int .i64 m, .int .i64 pk, .int .i64 pv, .bool opt, .int .i64 ik, .string inn, .int .i64 n, .bool wm] w fun e w' => e = .returned (.bool true) ∧ w = w' := by
  go_enter Tryz.func25, Tryz.ntmps25
  go_wp2_with fail
  go_ret
  exact ⟨rfl, rfl⟩

set_option maxRecDepth 100000 in
set_option maxHeartbeats 1000000 in
theorem bytesFI_any (k m pk pv ik n : Int) (opt wm : Bool) (on inn : ByteArray) (w : World) (h1 : on.size ≤ maxLen) (h2 : inn.size ≤ maxLen) :
    Calls Tryz.prog 25 #[.int .i64 k, .string on, .int .i64 m, .int .i64 pk, .int .i64 pv, .bool opt, .int .i64 ik, .string inn, .int .i64 n, .bool wm] w (SomeBool w) := by
  unfold maxLen at h1 h2
  go_enter Tryz.func25, Tryz.ntmps25
  go_wp2_with fail
  all_goals (go_ret; exact ⟨_, rfl, rfl⟩)

set_option maxRecDepth 100000 in
set_option maxHeartbeats 4000000 in
theorem law6_ok (k pk ikk : Int) (K : FK) (P : FP) (ik : Bool) (hK : k = K.code) (hP : pk = P.code) (hI : ikk = ikCode ik) (hk0 : 0 ≤ k) (hk1 : k ≤ 2) (hp0 : 0 ≤ pk) (hp1 : pk ≤ 2) (hi0 : 0 ≤ ikk) (hi1 : ikk ≤ 1)
    (wm opt : Bool) (n m : Nat) (hn : n ≤ 4096) (hm : m ≤ 4096) (on inn : ByteArray) (pv : Int) (w : World) (h1 : on.size ≤ 65536) (h2 : inn.size ≤ 65536) :
    Calls Tryz.prog 6 #[.int .i64 k, .string on, .int .i64 m, .int .i64 pk, .int .i64 pv, .bool opt, .int .i64 ikk, .string inn, .int .i64 n, .bool wm] w fun e w' => e = .returned (.bool true) ∧ Below w.heap.size w w' := by
  have CB := build_all K P ik wm n hn on inn m hm pv opt w
  rw [← hK, ← hP, ← hI] at CB
  have HK := Lib.hid hK
  have HP := Lib.hid hP
  have HI := Lib.hid hI
  have CB := Lib.hid CB
  clear hK hP hI
  go_enter Tryz.func6, Tryz.ntmps6
  go_wp2_with fail
  refine (bytesFI _ _ _ _ _ _ _ _ _ _ _ h1 h2).mono ?_
  rintro e w' ⟨rfl, rfl⟩
  go_wp2_with fail
  refine CB.out.mono ?_
  rintro e w1 hpost
  obtain ⟨pr, pp, bo, pi, pm, ba, bn, b0, o0, o1, o2, o3, o5, tR, rfl, ht, hc⟩ := hpost.fields
  have HC := Lib.hid hc
  have HT := Lib.hid ht
  clear hpost hc ht
  go_wp2_with fail
  have tl : (w1.alloc (.cells #[.pointer o0, .pointer o1, .pointer o2, .pointer o3, (.slice (some ⟨ba, 0, none⟩) n n), .pointer o5] 91)).heap.size = w1.heap.size + 1 := alloc_size _ _
  refine (zzFFVisit K P on m pv opt ik wm inn n (w1.heap.size + 1) pr pp bo pi pm ba bn b0 w _ ((HC.out.alloc (.cells #[.pointer o0, .pointer o1, .pointer o2, .pointer o3, (.slice (some ⟨ba, 0, none⟩) n n), .pointer o5] 91)).alloc (.cells #[.iface tR (.pointer (some ⟨pr, 0, none⟩))] 59)) (by rw [← HT.out.1]; exact alloc_new' tl.symm)).mono ?_
  clear tl
  rintro e w3 hv
  have hret := hv.ret
  subst hret
  have ht0 : ((w1.alloc (.cells #[.pointer o0, .pointer o1, .pointer o2, .pointer o3, (.slice (some ⟨ba, 0, none⟩) n n), .pointer o5] 91)).alloc (.cells #[.iface tR (.pointer (some ⟨pr, 0, none⟩))] 59)).heap[w1.heap.size]? = some (.cells #[.pointer o0, .pointer o1, .pointer o2, .pointer o3, (.slice (some ⟨ba, 0, none⟩) n n), .pointer o5] 91 (0, 0)) := by
    rw [alloc_old _ (by rw [alloc_size]; omega)]; exact alloc_new _ _
  have hr0 : ((w1.alloc (.cells #[.pointer o0, .pointer o1, .pointer o2, .pointer o3, (.slice (some ⟨ba, 0, none⟩) n n), .pointer o5] 91)).alloc (.cells #[.iface tR (.pointer (some ⟨pr, 0, none⟩))] 59)).heap[w1.heap.size + 1]? = some (.cells #[.iface tR (.pointer (some ⟨pr, 0, none⟩))] 59 (0, 0)) := alloc_new' (by rw [alloc_size])
  have hs1 := HC.out.below.size
  rcases hv with ⟨hno, _, hb3⟩ | ⟨hyes, _, q, hw3, hq, hroot, hbuilt⟩
  · have ht3 := below_keep hb3 ht0
    have hr3 := below_keep hb3 hr0
    have hc3 := ((HC.out.alloc (.cells #[.pointer o0, .pointer o1, .pointer o2, .pointer o3, (.slice (some ⟨ba, 0, none⟩) n n), .pointer o5] 91)).alloc (.cells #[.iface tR (.pointer (some ⟨pr, 0, none⟩))] 59)).move (w' := w3) ((((HC.out.alloc _).alloc _).below).trans (hb3.mono (by rw [alloc_size, alloc_size]; omega))) (Keeps.below hb3)
    have z6 : w3.cell? ⟨w1.heap.size + 1, 0, none⟩ = some (.iface tR (.pointer (some ⟨pr, 0, none⟩))) := by rw [cell_of_block hr3]; rfl
    have HC3 := Lib.hid hc3
    have HT3 := Lib.hid ht3
    have HR3 := Lib.hid hr3
    have HNo := Lib.hid hno
    clear hno hb3 ht3 hr3 hc3 ht0 hr0 hs1
    go_wp2_with fail
    refine (zzFFVisit K P on m pv opt ik wm inn n (w1.heap.size + 1) pr pp bo pi pm ba bn b0 w _ HC3.out (by rw [← HT.out.1]; exact HR3.out)).mono ?_
    rintro e w5 hv
    have hret := hv.ret
    subst hret
    rcases hv with ⟨_, _, hb5⟩ | ⟨hyes, _⟩
    case inr => exact absurd hyes HNo.out
    have ht5 := below_keep hb5 HT3.out
    have hr5 := below_keep hb5 HR3.out
    have hc5 := HC3.out.move (w' := w5) (HC3.out.below.trans (hb5.mono HC3.out.below.size)) (Keeps.below hb5)
    have c0 : w5.cell? ⟨w1.heap.size, 0, none⟩ = some (.pointer o0) := by rw [cell_of_block ht5]; rfl
    have c1 : w5.cell? ⟨w1.heap.size, 1, none⟩ = some (.pointer o1) := by rw [cell_of_block ht5]; rfl
    have c2 : w5.cell? ⟨w1.heap.size, 2, none⟩ = some (.pointer o2) := by rw [cell_of_block ht5]; rfl
    have c3 : w5.cell? ⟨w1.heap.size, 3, none⟩ = some (.pointer o3) := by rw [cell_of_block ht5]; rfl
    have c4 : w5.cell? ⟨w1.heap.size, 4, none⟩ = some (.slice (some ⟨ba, 0, none⟩) n n) := by rw [cell_of_block ht5]; rfl
    have c5 : w5.cell? ⟨w1.heap.size, 5, none⟩ = some (.pointer o5) := by rw [cell_of_block ht5]; rfl
    have c6 : w5.cell? ⟨w1.heap.size + 1, 0, none⟩ = some (.iface tR (.pointer (some ⟨pr, 0, none⟩))) := by rw [cell_of_block hr5]; rfl
    have HC5 := Lib.hid hc5
    clear z6 hb5 ht5 hr5 hc5
    go_wp2_with fail
    refine (show Calls Tryz.prog 26 #[.iface tR (.pointer (some ⟨pr, 0, none⟩)), .iface tR (.pointer (some ⟨pr, 0, none⟩))] w5 (fun e w' => e = .returned (.bool true) ∧ w5 = w') from (by rw [HT.out.1]; exact sameRoot_all K pr w5)).mono ?_
    rintro e w' ⟨rfl, rfl⟩
    go_wp2_with fail
    refine (expect_all _ _ _ _ _ _ _ _ _ _).mono ?_
    rintro e w' ⟨hx, rfl⟩
    rcases hx with ⟨x1, x2, _⟩ | ⟨x1, x2, _⟩ | ⟨_, rfl⟩
    · exact absurd (FRw.of_mem HK.out HP.out HI.out x1 x2).1 HNo.out
    · exact absurd (FRw.of_bui HK.out HI.out x1 x2).1 HNo.out
    · go_wp2_with fail
      refine (unch_all hn HC5.out HT.out HK.out).mono ?_
      rintro e w4 ⟨rfl, hb4⟩
      go_wp2_with fail
      go_ret
      exact ⟨rfl, HC5.out.below.trans (hb4.mono HC5.out.below.size)⟩
  · have ht3 := hw3.keep ht0 (by simp)
    have hk3 : Keeps w1 w3 := fun i o hi => hw3.keep ((Keeps.alloc w1 _).trans (Keeps.alloc _ _) i o hi) (by have := lt_of_heap hi; simp; omega)
    have hbel : Below w.heap.size w w3 := (HC.out.below.alloc hs1 _ |>.alloc (by rw [alloc_size]; omega) _).trans (hw3.below (by rw [alloc_size, alloc_size]; omega) (by simp; omega))
    have hc3 := HC.out.move hbel hk3
    have z6 : w3.cell? ⟨w1.heap.size + 1, 0, none⟩ = some (.iface 77 (.pointer (some ⟨q, 0, none⟩))) := by rw [cell_of_block hroot]; rfl
    have HC2 := Lib.hid hc3
    have HT3 := Lib.hid ht3
    have HR3 := Lib.hid hroot
    have HY := Lib.hid hyes
    have HB2 := Lib.hid hbuilt
    clear hyes hw3 hq hroot hbuilt hbel hk3 hc3 ht3 ht0 hr0 hs1
    go_wp2_with fail
    refine (zzFFVisit_find (w1.heap.size + 1) q bn n _ _ _ HR3.out HB2.out).mono ?_
    rintro e w5 ⟨rfl, hb5⟩
    have ht5 := below_keep hb5 HT3.out
    have hr5 := below_keep hb5 HR3.out
    have hq5 := below_keep hb5 HB2.out
    have hc5 := HC2.out.move (w' := w5) (HC2.out.below.trans (hb5.mono HC2.out.below.size)) (Keeps.below hb5)
    have c0 : w5.cell? ⟨w1.heap.size, 0, none⟩ = some (.pointer o0) := by rw [cell_of_block ht5]; rfl
    have c1 : w5.cell? ⟨w1.heap.size, 1, none⟩ = some (.pointer o1) := by rw [cell_of_block ht5]; rfl
    have c2 : w5.cell? ⟨w1.heap.size, 2, none⟩ = some (.pointer o2) := by rw [cell_of_block ht5]; rfl
    have c3 : w5.cell? ⟨w1.heap.size, 3, none⟩ = some (.pointer o3) := by rw [cell_of_block ht5]; rfl
    have c4 : w5.cell? ⟨w1.heap.size, 4, none⟩ = some (.slice (some ⟨ba, 0, none⟩) n n) := by rw [cell_of_block ht5]; rfl
    have c5 : w5.cell? ⟨w1.heap.size, 5, none⟩ = some (.pointer o5) := by rw [cell_of_block ht5]; rfl
    have c6 : w5.cell? ⟨w1.heap.size + 1, 0, none⟩ = some (.iface 77 (.pointer (some ⟨q, 0, none⟩))) := by rw [cell_of_block hr5]; rfl
    have HC3 := Lib.hid hc5
    have HB := Lib.hid hq5
    clear z6 hb5 ht5 hr5 hc5 hq5
    go_wp2_with fail
    refine (sameRoot_bui q w5).mono ?_
    rintro e w' ⟨rfl, rfl⟩
    go_wp2_with fail
    refine (expect_all _ _ _ _ _ _ _ _ _ _).mono ?_
    rintro e w' ⟨hx, rfl⟩
    rcases hx with ⟨x1, x2, rfl⟩ | ⟨x1, x2, rfl⟩ | ⟨hno, _⟩
    · obtain ⟨_, ht, rfl⟩ := FRw.of_mem (P := P) (on := on) (m := m) HK.out HP.out HI.out x1 x2
      go_wp2_with fail
      refine (find_all HY.out.ok HC3.out.inner HC3.out.args (by have h := HB.out; rw [ht] at h; exact h) HT.out).mono ?_
      rintro e w4 ⟨rfl, hb4⟩
      go_wp2_with fail
      go_ret
      exact ⟨rfl, HC3.out.below.trans (hb4.mono HC3.out.below.size)⟩
    · obtain ⟨_, ht, rfl⟩ := FRw.of_bui (P := P) (pv := pv) (opt := opt) HK.out HI.out x1 x2
      go_wp2_with fail
      refine (find_all HY.out.ok HC3.out.inner HC3.out.args (by have h := HB.out; rw [ht] at h; exact h) HT.out).mono ?_
      rintro e w4 ⟨rfl, hb4⟩
      go_wp2_with fail
      go_ret
      exact ⟨rfl, HC3.out.below.trans (hb4.mono HC3.out.below.size)⟩
    · exact absurd HY.out (FRw.no HK.out HP.out HI.out hno)

set_option maxRecDepth 100000 in
set_option maxHeartbeats 4000000 in
/-- THE WALK: at every input. -/
theorem law6 (k : Int) (on : ByteArray) (m pk pv : Int) (opt : Bool) (ik : Int) (inn : ByteArray) (n : Int) (wm : Bool) (w : World) (h1 : on.size ≤ maxLen) (h2 : inn.size ≤ maxLen) :
    Calls Tryz.prog 6 #[.int .i64 k, .string on, .int .i64 m, .int .i64 pk, .int .i64 pv, .bool opt, .int .i64 ik, .string inn, .int .i64 n, .bool wm] w fun e w' => e = .returned (.bool true) ∧ Below w.heap.size w w' := by
  by_cases hok : on.size ≤ 65536 ∧ inn.size ≤ 65536 ∧ (0 ≤ m ∧ m ≤ 4096) ∧ (0 ≤ n ∧ n ≤ 4096) ∧ (0 ≤ k ∧ k ≤ 2) ∧ (0 ≤ pk ∧ pk ≤ 2) ∧ (0 ≤ ik ∧ ik ≤ 1)
  · obtain ⟨g1, g2, ⟨g3, g4⟩, ⟨g5, g6⟩, ⟨g7, g8⟩, ⟨g9, g10⟩, ⟨g11, g12⟩⟩ := hok
    obtain ⟨m, rfl⟩ := Int.eq_ofNat_of_zero_le g3
    obtain ⟨n, rfl⟩ := Int.eq_ofNat_of_zero_le g5
    have hK : ∃ K : FK, k = K.code := by
      rcases (by omega : k = 0 ∨ k = 1 ∨ k = 2) with h | h | h
      · exact ⟨.mem, h⟩
      · exact ⟨.bui, h⟩
      · exact ⟨.idn, h⟩
    have hP : ∃ P : FP, pk = P.code := by
      rcases (by omega : pk = 0 ∨ pk = 1 ∨ pk = 2) with h | h | h
      · exact ⟨.no, h⟩
      · exact ⟨.num, h⟩
      · exact ⟨.str, h⟩
    have hI : ∃ b : Bool, ik = ikCode b := by
      rcases (by omega : ik = 0 ∨ ik = 1) with h | h
      · exact ⟨true, h⟩
      · exact ⟨false, h⟩
    obtain ⟨K, hK⟩ := hK
    obtain ⟨P, hP⟩ := hP
    obtain ⟨b, hI⟩ := hI
    exact law6_ok k pk ik K P b hK hP hI g7 g8 g9 g10 g11 g12 wm opt n m (by omega) (by omega) on inn pv w g1 g2
  · have m1 := h1
    have m2 := h2
    unfold maxLen at h1 h2
    have HN := Lib.hid hok
    clear hok
    go_enter Tryz.func6, Tryz.ntmps6
    go_wp2_with fail
    refine (bytesFI_any _ _ _ _ _ _ _ _ _ _ _ m1 m2).mono ?_
    rintro e w' ⟨b, rfl, rfl⟩
    cases b
    · go_wp2_with fail
      go_ret
      exact ⟨rfl, Below.refl _ _⟩
    · go_wp2_with fail
      all_goals first
        | (go_ret; exact ⟨rfl, Below.refl _ _⟩)
        | (exfalso; refine HN.out ?_; refine ⟨by omega, by omega, ⟨by omega, by omega⟩, ⟨by omega, by omega⟩, ⟨by omega, by omega⟩, ⟨by omega, by omega⟩, by omega, by omega⟩)
end Go.Proofs.YtgpbhigjmkkofaaGreat

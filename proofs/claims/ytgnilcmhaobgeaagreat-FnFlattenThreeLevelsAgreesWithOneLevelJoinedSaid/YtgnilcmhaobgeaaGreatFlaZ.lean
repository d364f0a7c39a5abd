/- Flatten: ZZflatten2, ZZflatten3. -/
import Derived.Test.YtgnilcmhaobgeaaGreatFlaF
namespace Go.Proofs.YtgnilcmhaobgeaaGreat
open Go.RowKit Go.Deep

theorem map_id_flatten (M : List (List Int)) : (M.map fun x => x).flatten = M.flatten := by simp
theorem map_flatten (N : List (List (List Int))) : (N.map List.flatten).flatten = N.flatten.flatten := by
  induction N with
  | nil => rfl
  | cons x N ih => simp [ih]

theorem flat2 (F d : Int) (hF : F = 151 ∨ F = 407) (hd1 : -9223372036854775808 ≤ d) (M : List (List Int)) (hg : d ≤ 10000 ∧ (d = 10000 → M = [])) (hM : M.flatten.length ≤ 65536) (w : World) (a : Addr) (v : Value) (ha : w.cell? a = some v) (hv : In2 w v M) :
    Calls Tryz.prog 12 #[RV 36 a F, .int .i64 d] w (FlatPost w M.flatten) := by
  have hsub : M ≠ [] → SubAt 38 407 (d + 1) In1 (fun x => x) := fun hne w' p u x hc hu hl => flatI (d + 1) (by
    have := hg.1
    by_cases e : d = 10000
    · exact absurd (hg.2 e) hne
    · omega) x hl w' p u hc hu
  have h := flatS 36 38 F d In1 (fun x => x) In1.stable (by rcases hF with rfl | rfl; exact len_2; exact len_2b) (by rcases hF with rfl | rfl; exact idx_2; exact idx_2b) kind_1 deref_1 M hsub hd1 hg.1 (by rw [map_id_flatten]; exact hM) w a v ha hv
  rw [map_id_flatten] at h
  exact h
theorem flat3 (d : Int) (hd : d = 0) (N : List (List (List Int))) (hN : N.flatten.flatten.length ≤ 65536) (w : World) (a : Addr) (v : Value) (ha : w.cell? a = some v) (hv : In3 w v N) :
    Calls Tryz.prog 12 #[RV 42 a 151, .int .i64 d] w (FlatPost w N.flatten.flatten) := by
  subst hd
  have hsub : N ≠ [] → SubAt 36 407 (0 + 1) In2 List.flatten := fun _ w' p u x hc hu hl => flat2 407 (0 + 1) (Or.inr rfl) (by omega) x ⟨by omega, fun h => by omega⟩ hl w' p u hc hu
  have h := flatS 42 36 151 0 In2 List.flatten In2.stable len_3 idx_3 kind_2 deref_2 N hsub (by omega) (by omega) (by rw [map_flatten]; exact hN) w a v ha hv
  rw [map_flatten] at h
  exact h

set_option maxRecDepth 100000 in
set_option maxHeartbeats 1000000 in
theorem z2_of (a : Option Addr) (l c : Nat) (L : List Int) (hL : L.length ≤ 65536) (d : Int) (w : World) (hf : Calls Tryz.prog 12 #[RV 36 ⟨w.heap.size, 0, none⟩ 151, .int .i64 d] (w.alloc (.cells #[.slice a l c] 36)) (FlatPost (w.alloc (.cells #[.slice a l c] 36)) L)) :
    Calls Tryz.prog 7 #[.slice a l c, .int .i64 d] w (ZPost w L) := by
  have hV := valueOf_2
  have HF := Lib.hid hf
  have HB0 := Lib.hid ((Below.refl w.heap.size w).alloc (Nat.le_refl _) (.cells #[.slice a l c] 36))
  have HM := Lib.hid hL
  clear hf hL
  go_enter Tryz.func7, Tryz.ntmps7
  go_wp2_with fail
  refine HF.out.mono ?_
  rintro e w1 ⟨v1, rfl, hb1, hg1⟩
  obtain ⟨g1, c1, rfl⟩ := hg1.shape
  have HB1 := Lib.hid (below_trans HB0.out hb1 (Nat.le_refl _))
  have HG1 := Lib.hid hg1
  clear hb1 hg1
  go_wp2_with fail
  refine (toInts _ _ _ _ HM.out HG1.out).mono ?_
  rintro e w2 ⟨b2, rfl, hb2, hr2⟩
  have HB2 := Lib.hid (below_trans HB1.out hb2 (Nat.le_refl _))
  have HR2 := Lib.hid hr2
  clear hb2 hr2
  go_wp2_with fail
  go_ret3
  exact ⟨b2, rfl, HB2.out, HR2.out⟩


set_option maxRecDepth 100000 in
set_option maxHeartbeats 1000000 in
theorem z2_good (v : Value) (M : List (List Int)) (d : Int) (w : World) (hM : M.flatten.length ≤ 65536) (hd1 : -9223372036854775808 ≤ d) (hg : d ≤ 10000 ∧ (d = 10000 → M = [])) (hv : In2 w v M) :
    Calls Tryz.prog 7 #[v, .int .i64 d] w (ZPost w M.flatten) := by
  obtain ⟨a, c, rfl⟩ := hv.shape
  have hcell : (w.alloc (.cells #[.slice a M.length c] 36)).cell? ⟨w.heap.size, 0, none⟩ = some (.slice a M.length c) := by rw [cell_of_block (alloc_new w _)]; rfl
  exact z2_of a M.length c _ hM d w (flat2 151 d (Or.inl rfl) hd1 M hg hM (w.alloc (.cells #[.slice a M.length c] 36)) ⟨w.heap.size, 0, none⟩ (.slice a M.length c) hcell (In2.stable _ _ _ _ hv ((Below.refl _ _).alloc (Nat.le_refl _) _)))

set_option maxRecDepth 100000 in
set_option maxHeartbeats 1000000 in
theorem z2_bad (v : Value) (M : List (List Int)) (d : Int) (w : World) (hv : In2 w v M) (hbad : 10000 < d ∨ (d = 10000 ∧ M ≠ [])) :
    Calls Tryz.prog 7 #[v, .int .i64 d] w (ZErr w) := by
  obtain ⟨a, c, rfl⟩ := hv.shape
  have hV := valueOf_2
  have hcell : (w.alloc (.cells #[.slice a M.length c] 36)).cell? ⟨w.heap.size, 0, none⟩ = some (.slice a M.length c) := by rw [cell_of_block (alloc_new w _)]; rfl
  have hf : Calls Tryz.prog 12 #[RV 36 ⟨w.heap.size, 0, none⟩ 151, .int .i64 d] (w.alloc (.cells #[.slice a M.length c] 36)) (ErrPost (w.alloc (.cells #[.slice a M.length c] 36))) := by
    rcases hbad with h | ⟨h, hne⟩
    · exact flat_deep _ _ _ d h _
    · subst h
      exact flatS_err 36 38 151 In1 len_2 idx_2 kind_1 deref_1 M hne _ _ (.slice a M.length c) hcell (In2.stable _ _ _ _ hv ((Below.refl _ _).alloc (Nat.le_refl _) _))
  have HF := Lib.hid hf
  have HB0 := Lib.hid ((Below.refl w.heap.size w).alloc (Nat.le_refl _) (.cells #[.slice a M.length c] 36))
  clear hv hbad hf hcell
  go_enter Tryz.func7, Tryz.ntmps7
  go_wp2_with fail
  refine HF.out.mono ?_
  rintro e w1 ⟨T, s, rfl, hb1⟩
  have HB1 := Lib.hid (below_trans HB0.out hb1 (Nat.le_refl _))
  clear hb1
  go_wp2_with fail
  refine (toInts_nil _).mono ?_
  rintro e w2 ⟨rfl, rfl⟩
  go_wp2_with fail
  go_ret3
  exact ⟨T, s, rfl, HB1.out⟩

set_option maxRecDepth 100000 in
set_option maxHeartbeats 1000000 in
theorem z3_of (a : Option Addr) (l c : Nat) (L : List Int) (hL : L.length ≤ 65536) (d : Int) (w : World) (hf : Calls Tryz.prog 12 #[RV 42 ⟨w.heap.size, 0, none⟩ 151, .int .i64 d] (w.alloc (.cells #[.slice a l c] 42)) (FlatPost (w.alloc (.cells #[.slice a l c] 42)) L)) :
    Calls Tryz.prog 11 #[.slice a l c, .int .i64 d] w (ZPost w L) := by
  have hV := valueOf_3
  have HF := Lib.hid hf
  have HB0 := Lib.hid ((Below.refl w.heap.size w).alloc (Nat.le_refl _) (.cells #[.slice a l c] 42))
  have HM := Lib.hid hL
  clear hf hL
  go_enter Tryz.func11, Tryz.ntmps11
  go_wp2_with fail
  refine HF.out.mono ?_
  rintro e w1 ⟨v1, rfl, hb1, hg1⟩
  obtain ⟨g1, c1, rfl⟩ := hg1.shape
  have HB1 := Lib.hid (below_trans HB0.out hb1 (Nat.le_refl _))
  have HG1 := Lib.hid hg1
  clear hb1 hg1
  go_wp2_with fail
  refine (toInts _ _ _ _ HM.out HG1.out).mono ?_
  rintro e w2 ⟨b2, rfl, hb2, hr2⟩
  have HB2 := Lib.hid (below_trans HB1.out hb2 (Nat.le_refl _))
  have HR2 := Lib.hid hr2
  clear hb2 hr2
  go_wp2_with fail
  go_ret3
  exact ⟨b2, rfl, HB2.out, HR2.out⟩

set_option maxRecDepth 100000 in
set_option maxHeartbeats 1000000 in
theorem z3_good (v : Value) (N : List (List (List Int))) (w : World) (hN : N.flatten.flatten.length ≤ 65536) (hv : In3 w v N) :
    Calls Tryz.prog 11 #[v, .int .i64 0] w (ZPost w N.flatten.flatten) := by
  obtain ⟨a, c, rfl⟩ := hv.shape
  have hcell : (w.alloc (.cells #[.slice a N.length c] 42)).cell? ⟨w.heap.size, 0, none⟩ = some (.slice a N.length c) := by rw [cell_of_block (alloc_new w _)]; rfl
  exact z3_of a N.length c _ hN 0 w (flat3 0 rfl N hN (w.alloc (.cells #[.slice a N.length c] 42)) ⟨w.heap.size, 0, none⟩ (.slice a N.length c) hcell (In3.stable _ _ _ _ hv ((Below.refl _ _).alloc (Nat.le_refl _) _)))

end Go.Proofs.YtgnilcmhaobgeaaGreat

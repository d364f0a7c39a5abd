/- FnFlattenThreeLevelsAgreesWithOneLevelJoined: the walk: true at every input. -/
import Derived.Test.YtgnilcmhaobgeaaGreatFlaG
import Derived.Test.YtgnilcmhaobgeaaGreatFlaZ
import Derived.Test.YtgnilcmhaobgeaaGreatFlaK
import Derived.Deep.QuietTactic
import Derived.BigQuiet
namespace Go.Proofs.YtgnilcmhaobgeaaGreat
open Go.RowKit Go.Deep

/-- how many ints the first k hold -/
def pre2 (M : List (List (List Int))) (k : Nat) : Nat := ((M.take k).flatten.flatten).length
theorem pre2_zero (M : List (List (List Int))) : pre2 M 0 = 0 := by simp [pre2]
theorem pre2_succ {M : List (List (List Int))} {k : Nat} {x : List (List Int)} (h : M[k]? = some x) : pre2 M (k + 1) = pre2 M k + pre x x.length := by
  unfold pre2
  rw [take_flat_succ h, List.flatten_append, List.length_append, pre_all x (Nat.le_refl _)]
theorem pre2_all (M : List (List (List Int))) {k : Nat} (h : M.length ≤ k) : pre2 M k = M.flatten.flatten.length := by
  unfold pre2
  rw [List.take_of_length_le h]
theorem Ow3.toIn3 {w : World} {v : Value} {M : List (List (List Int))} (h : Ow3 w v M) (hm : M.length ≤ maxLen) (hx : ∀ x ∈ M, x.length ≤ maxLen) (hy : ∀ x ∈ M, ∀ y ∈ x, y.length ≤ maxLen) : In3 w v M :=
  OwS.toIn h hm fun _ x hxm hu => OwS.toIn hu (hx x hxm) fun _ y hym hv => OwS.toIn hv (hy x hxm y hym) fun _ _ _ h => h
theorem mk_rows (n : Nat) (hn : n ≤ 16384) (w : World) : (Instr.makeSlice 36 (.int .i64 0) (.int .i64 (n : Int))).run Tryz.prog w = .ok (.slice (some ⟨w.heap.size, 0, none⟩) 0 n) (w.alloc (.cells (madeCells #[.slice none 0 0] n) 38)) := by
  obtain ⟨i, hi, hz⟩ := Option.map_eq_some_iff.1 infoR1
  simp only [Prod.mk.injEq] at hz
  obtain ⟨hz0, hz1, hz2⟩ := hz
  have h := run_make (P := Tryz.prog) w 36 38 i _ Tryz.underlying36 hi hz0 .i64 .i64 0 n (Int.le_refl _) (by omega) (by rw [hz2]; omega) (by omega)
  have hc : (Value.slice none 0 0).cells = #[.slice none 0 0] := rfl
  rw [hz1, hc] at h
  simpa using h
theorem infoRow : ∃ i, Tryz.prog.info? 38 = some i ∧ i.zero = some (.slice none 0 0) ∧ i.size = 1 ∧ i.bytes = 24 := by
  obtain ⟨i, hi, hz⟩ := Option.map_eq_some_iff.1 infoR1
  simp only [Prod.mk.injEq] at hz
  exact ⟨i, hi, hz.1, hz.2.1, hz.2.2⟩

set_option maxRecDepth 100000 in
set_option maxHeartbeats 8000000 in
theorem lawF3 (a0 : Value) (M : List (List (List Int))) (w : World) (w0 : In3 w a0 M) :
    Calls Tryz.prog 4 #[a0] w fun e w' => e = .returned (.bool true) ∧ Below w.heap.size w w' := by
  obtain ⟨i0, hi, hz0, hz1, hz2⟩ := infoRow
  have nE := neqNil
  obtain ⟨a, c, rfl⟩ := w0.shape
  have hlen := w0.len.2
  unfold maxLen at hlen
  have HX := Lib.hid w0
  clear w0
  go_enter Tryz.func4, Tryz.ntmps4
  go_wp2_with fail
  refine (bytes3 _ M _ HX.out).mono ?_
  rintro e w' ⟨b, rfl, hbt, rfl⟩
  cases b
  · clear hbt
    go_wp2_with fail
    go_ret
    exact ⟨rfl, Below.refl _ _⟩
  have HS1 := Lib.hid (hbt rfl).1
  have HS2 := Lib.hid (hbt rfl).2
  clear hbt
  by_cases h12 : M.length ≤ 4096
  case neg =>
    go_wp2_with fail
    go_ret
    exact ⟨rfl, Below.refl _ _⟩
  go_wp2_with fail
  go_loop [3, 4, 5] (fun m t i => ∃ k : Nat, k ≤ M.length ∧ i = .int .i64 k ∧ m = .int .i64 (pre M k) ∧ t = .int .i64 (pre2 M k) ∧ pre M k ≤ 16384 ∧ pre2 M k ≤ 65536) (fun _ _ i => M.length - (intOf i).toNat)
  case atStart => exact ⟨0, Nat.zero_le _, rfl, by rw [pre_zero]; rfl, by rw [pre2_zero]; rfl, by rw [pre_zero]; omega, by rw [pre2_zero]; omega⟩
  case round =>
    obtain ⟨k, hk, rfl, rfl, rfl, hp, hp2⟩ := hrel
    by_cases hlt : k < M.length
    · obtain ⟨b, off, u, x, ha, hx, hc, hu⟩ := HX.out.at hlt
      subst ha
      obtain ⟨ua, uc, rfl⟩ := hu.shape
      have hul := HS1.out x (List.mem_of_getElem? hx)
      have HY := Lib.hid (HS2.out x (List.mem_of_getElem? hx))
      have HP := Lib.hid (pre_succ hx)
      have HP2 := Lib.hid (pre2_succ hx)
      have HU := Lib.hid hu
      generalize pre M k = s at hp HP ⊢
      generalize pre2 M k = s2 at hp2 HP2 ⊢
      clear hu hx
      go_wp2_with fail
      all_goals first
        | (go_ret; exact ⟨rfl, Below.refl _ _⟩)
        | skip
      go_loop [4, 6] (fun t j => ∃ q : Nat, q ≤ x.length ∧ j = .int .i64 q ∧ t = .int .i64 ((s2 + pre x q : Nat) : Int) ∧ s2 + pre x q ≤ 65536) (fun _ j => x.length - (intOf j).toNat)
      case atStart => exact ⟨0, Nat.zero_le _, rfl, by rw [pre_zero]; rfl, by rw [pre_zero]; omega⟩
      case round =>
        obtain ⟨q, hq, rfl, rfl, hpq⟩ := hrel
        by_cases hlq : q < x.length
        · obtain ⟨b2, off2, u2, y, ha2, hy, hc2, hu2⟩ := HU.out.at hlq
          subst ha2
          obtain ⟨ua2, uc2, rfl⟩ := hu2.shape
          have hul2 := HY.out y (List.mem_of_getElem? hy)
          have HPY := Lib.hid (pre_succ hy)
          generalize hsum : s2 + pre x q = s3 at hpq ⊢
          have HSUM := Lib.hid hsum
          clear hu2 hy hsum
          go_wp2_with fail
          all_goals first
            | (go_ret; exact ⟨rfl, Below.refl _ _⟩)
            | (go_round
               case rel => exact ⟨q + 1, by omega, by go_num, congrArg (Value.int .i64) (by have := HSUM.out; rw [HPY.out]; omega), by have := HSUM.out; rw [HPY.out]; omega⟩
               case measure => simp [intOf]; omega)
        · obtain rfl : q = x.length := by omega
          generalize hsum : s2 + pre x x.length = s3 at hpq ⊢
          have HSUM := Lib.hid hsum
          clear hsum
          go_wp2_with fail
          go_round
          case rel => exact ⟨k + 1, by omega, by go_num, congrArg (Value.int .i64) (by rw [HP.out]; omega), congrArg (Value.int .i64) (by rw [HP2.out, HSUM.out]), by rw [HP.out]; omega, by rw [HP2.out, HSUM.out]; omega⟩
          case measure => simp [intOf]; omega
    · obtain rfl : k = M.length := by omega
      obtain ⟨J, hJ⟩ : ∃ J, J = M.flatten := ⟨_, rfl⟩
      obtain ⟨L, hL⟩ : ∃ L, L = J.flatten := ⟨_, rfl⟩
      rw [pre_all M (Nat.le_refl _), ← hJ] at hp ⊢
      rw [pre2_all M (Nat.le_refl _), ← hJ, ← hL] at hp2 ⊢
      have HJ := Lib.hid hJ
      have HLD := Lib.hid hL
      clear hJ hL
      go_wp2_with fail
      refine (clone3 _ M _ (by omega) HS1.out HS2.out HX.out).mono ?_
      rintro e w3 ⟨v3, rfl, hb3, ho3⟩
      have hi3 := ho3.toIn3 (by unfold maxLen; omega) (fun x hx => by have := HS1.out x hx; unfold maxLen; omega) (fun x hx y hy => by have := HS2.out x hx y hy; unfold maxLen; omega)
      obtain ⟨a3, rfl⟩ := ho3.shape
      have HI3 := Lib.hid hi3
      have HB3 := Lib.hid hb3
      have mk := mk_rows J.length hp
      clear hi3 hb3 ho3
      go_wp2_with fail
      go_loopw [7, 8] (fun v i wr => ∃ (k : Nat) (K : List (List Int)), k ≤ M.length ∧ i = .int .i64 k ∧ K = (M.take k).flatten ∧ Joined w3.heap.size wr v K ∧ Below w3.heap.size w3 wr) (fun _ i _ => M.length - (intOf i).toNat)
      case atStart => exact ⟨0, [], Nat.zero_le _, rfl, by simp, Joined.start _ _ (by unfold maxLen; omega), (Below.refl _ _).alloc (Nat.le_refl _) _⟩
      case round =>
        obtain ⟨k, K, hk, rfl, hK, hj, hb⟩ := hrel
        have HK := Lib.hid hK
        obtain ⟨g, gc, rfl⟩ := hj.shape
        clear hK mk
        by_cases hlt : k < M.length
        · obtain ⟨b, off, u, x, ha, hx, hc, hu⟩ := HI3.out.at hlt
          subst ha
          obtain ⟨ua, uc, rfl⟩ := hu.shape
          have hxl := HS1.out x (List.mem_of_getElem? hx)
          have HY := Lib.hid (HS2.out x (List.mem_of_getElem? hx))
          have hple := pre_le hx
          rw [← HJ.out] at hple
          have hKl : K.length = pre M k := by rw [HK.out]; rfl
          have hKx : K.length + x.length ≤ 16384 := by omega
          have HTF := Lib.hid (take_flat_succ hx)
          have HU := Lib.hid hu
          have HC := Lib.hid hc
          have HG := Lib.hid hj
          have HB := Lib.hid hb
          have hcr : wr.cell? ⟨b, off + k, none⟩ = some (.slice ua x.length uc) := by rw [hb.cell (p := ⟨b, off + k, none⟩) (lt_of_cell hc)]; exact hc
          clear hu hx hc hj hb hple hKl
          go_wp2_with fail
          go_loopw [7, 9] (fun v j wx => ∃ (q : Nat) (K2 : List (List Int)), q ≤ x.length ∧ j = .int .i64 q ∧ K2 = K ++ x.take q ∧ Joined w3.heap.size wx v K2 ∧ Below w3.heap.size w3 wx) (fun _ j _ => x.length - (intOf j).toNat)
          case atStart => exact ⟨0, K, Nat.zero_le _, rfl, by simp, HG.out, HB.out⟩
          case round =>
            clear hcr
            obtain ⟨q, K2, hq, rfl, hK2, hj2, hb2⟩ := hrel
            have hK2l : K2.length = K.length + q := by rw [hK2, List.length_append, List.length_take]; omega
            have HK2 := Lib.hid hK2
            have hcx : wr.cell? ⟨b, off + k, none⟩ = some (.slice ua x.length uc) := by rw [hb2.cell (p := ⟨b, off + k, none⟩) (lt_of_cell HC.out)]; exact HC.out
            obtain ⟨g2, gc2, rfl⟩ := hj2.shape
            clear hK2
            by_cases hlq : q < x.length
            · obtain ⟨b2, off2, u2, y, ha2, hy, hc2, hu2⟩ := HU.out.at hlq
              subst ha2
              obtain ⟨ua2, uc2, rfl⟩ := hu2.shape
              have hyl := HY.out y (List.mem_of_getElem? hy)
              have hcy : wr.cell? ⟨b2, off2 + q, none⟩ = some (.slice ua2 y.length uc2) := by rw [hb2.cell (p := ⟨b2, off2 + q, none⟩) (lt_of_cell hc2)]; exact hc2
              have HUY := Lib.hid (In1.stable _ _ _ _ hu2 hb2)
              have HYY := Lib.hid hy
              have HJ2 := Lib.hid hj2
              have HB2 := Lib.hid hb2
              have hkb : K2.length + 1 ≤ 16384 := by omega
              clear hu2 hy hc2 hj2 hb2 hK2l
              go_wp2_with fail
              refine (clone1 _ y _ hyl HUY.out).mono ?_
              rintro e w6 ⟨v6, rfl, hb6, ho6⟩
              obtain ⟨a6, rfl⟩ := ho6.shape
              have hba := hb6.alloc hb6.size (.cells #[.slice a6 y.length y.length] 38)
              have hj6 := HJ2.out.below hba
              have ho7 := Ow1.stable _ _ _ _ ho6 ((Below.refl w6.heap.size w6).alloc (Nat.le_refl _) (.cells #[.slice a6 y.length y.length] 38))
              obtain ⟨_, _, xs, _, hown, hel⟩ := id hj6
              have HJ6 := Lib.hid hj6
              have HO7 := Lib.hid ho7
              have HOWN := Lib.hid hown
              have HEL := Lib.hid hel
              have HBR := Lib.hid (HB2.out.trans (hba.mono HB2.out.size))
              have hs7 : w3.heap.size ≤ (w6.alloc (.cells #[.slice a6 y.length y.length] 38)).heap.size := by have := HB2.out.size; have := hba.size; omega
              have HS7 := Lib.hid hs7
              have hce : ∀ (j : Nat) (u : Value), ([.slice a6 y.length y.length] : List Value)[j]? = some u → (w6.alloc (.cells #[.slice a6 y.length y.length] 38)).cell? ((⟨w6.heap.size, 0, none⟩ : Addr).add j) = some u := by
                intro j u hj
                match j, hj with
                | 0, hj =>
                  simp at hj
                  subst hj
                  have e : (⟨w6.heap.size, 0, none⟩ : Addr).add 0 = ⟨w6.heap.size, 0, none⟩ := by simp [Addr.add]
                  rw [e, cell_of_block (alloc_new _ _)]
                  rfl
              have HCE := Lib.hid hce
              clear hb6 ho6 hba hj6 ho7 hown hel hs7 hce
              go_wp2_with (at_builtin; refine wpList_append_own _ rfl _ _ 36 rfl w3.heap.size 38 i0 (.slice none 0 0) 1 24 Tryz.underlying36 hi hz0 hz1 hz2 rfl (by decide) _ _ xs rfl HOWN.out ⟨w6.heap.size, 0, none⟩ 1 1 [.slice a6 y.length y.length] rfl rfl HCE.out (fun u hu => by simp at hu; subst hu; rfl) (by unfold maxLen; omega) (by omega) HS7.out ?_)
              intro v' w8 ho hg8 hn8
              have HJ8 := Lib.hid (HJ6.out.step (K := K ++ x.take (q + 1)) (by rw [HK2.out, take_succ_of HYY.out, List.append_assoc]) HO7.out HOWN.out HEL.out ho hg8 (fun h => (hn8 h).elim))
              have HB8 := Lib.hid (HJ6.out.grown HBR.out hg8 HS7.out)
              clear ho hg8 hn8
              go_wp2_with fail
              go_roundw
              case rel => exact ⟨q + 1, _, by omega, by go_num, rfl, HJ8.out, HB8.out⟩
              case measure => simp [intOf]; omega
            · obtain rfl : q = x.length := by omega
              have HJ2 := Lib.hid hj2
              have HB2 := Lib.hid hb2
              clear hj2 hb2 hK2l
              go_wp2_with fail
              go_roundw
              case rel => exact ⟨k + 1, _, by omega, by go_num, by rw [HK2.out, HTF.out, HK.out, List.take_of_length_le (Nat.le_refl _)], HJ2.out, HB2.out⟩
              case measure => simp [intOf]; omega
        · obtain rfl : k = M.length := by omega
          have hKJ : K = J := by rw [HK.out, HJ.out, List.take_of_length_le (Nat.le_refl _)]
          subst hKJ
          have HG := Lib.hid hj
          have HB := Lib.hid hb
          have HIB := Lib.hid (In3.stable _ _ _ _ HI3.out hb)
          clear hj hb
          have h3 : Calls Tryz.prog 11 #[.slice a3 M.length M.length, .int .i64 0] wr (ZPost wr L) := by
            have h := z3_good _ M wr (by rw [← HJ.out, ← HLD.out]; exact hp2) HIB.out
            rw [← HJ.out, ← HLD.out] at h
            exact h
          have H3 := Lib.hid h3
          clear h3
          go_wp2_with fail
          refine H3.out.mono ?_
          rintro e w4 ⟨b4, rfl, hb4, hr4⟩
          have hin := (HG.out.below hb4).toIn2 (by unfold maxLen; omega) (fun y hy => by
            rw [HJ.out] at hy
            obtain ⟨x, hx, hyx⟩ := List.mem_flatten.1 hy
            have := HS2.out x hx y hyx
            unfold maxLen
            omega)
          have h4 : Calls Tryz.prog 7 #[.slice (some ⟨g, 0, none⟩) K.length gc, .int .i64 0] w4 (ZPost w4 L) := by
            have h := z2_good _ K 0 w4 (by rw [← HLD.out]; exact hp2) (by omega) ⟨by omega, fun h => by omega⟩ hin
            rw [← HLD.out] at h
            exact h
          have H4 := Lib.hid h4
          have HB4 := Lib.hid (below_trans (below_trans HB3.out HB.out (Nat.le_refl _)) hb4 (Nat.le_refl _))
          have HR4 := Lib.hid hr4
          clear h4 hin hb4 hr4
          go_wp2_with fail
          refine H4.out.mono ?_
          rintro e w5 ⟨b5, rfl, hb5, hr5⟩
          have HR4b := Lib.hid (HR4.out.of_block (hb5.block _ HR4.out.lt))
          have HB5 := Lib.hid (below_trans HB4.out hb5 (Nat.le_refl _))
          have HR5 := Lib.hid hr5
          clear hb5 hr5
          go_wp2_with fail
          go_loopw [16] (fun i wx => ∃ q : Nat, q ≤ L.length ∧ i = .int .i64 q ∧ Below w5.heap.size w5 wx) (fun i _ => L.length - (intOf i).toNat)
          case atStart => exact ⟨0, Nat.zero_le _, rfl, Below.refl _ _⟩
          case round =>
            obtain ⟨q, hq, rfl, hbx⟩ := hrel
            by_cases hlq : q < L.length
            · have c1 := HR4b.out.cell hlq
              have c2 := HR5.out.cell hlq
              rw [← hbx.cell (p := ⟨b4, q, none⟩) HR4b.out.lt] at c1
              rw [← hbx.cell (p := ⟨b5, q, none⟩) HR5.out.lt] at c2
              generalize L.getD q 0 = y at c1 c2
              have HBX := Lib.hid hbx
              have i1 : (q : Int) < (L.length : Int) := by omega
              clear hbx
              go_wp2_with fail
              go_quiet (fail)
              clear i1
              go_wp2_with fail
              go_roundw
              case rel => exact ⟨q + 1, by omega, by go_num, ⟨HBX.out.os, HBX.out.tape, HBX.out.output, HBX.out.size, HBX.out.block⟩⟩
              case measure => simp [intOf]; omega
            · obtain rfl : q = L.length := by omega
              have HBX := Lib.hid hbx
              clear hbx
              go_wp2_with fail
              go_ret
              exact ⟨rfl, below_trans HB5.out HBX.out (Nat.le_refl _)⟩
end Go.Proofs.YtgnilcmhaobgeaaGreat

/- FnFlattenTwoLevelsIsConcatenation: the walk: true at every input. -/
import Derived.Test.YtgnilcmhaobgeaaGreatFlaG
import Derived.Test.YtgnilcmhaobgeaaGreatFlaZ
import Derived.OpenShut
import Derived.Deep.QuietTactic
import Derived.BigQuiet
import Derived.Deep.DeepCutAuto
namespace Go.Proofs.YtgnilcmhaobgeaaGreat
open Go.RowKit Go.Deep

theorem mem_pre {M : List (List Int)} {n : Nat} (h : M.flatten.length ≤ n) : ∀ x ∈ M, x.length ≤ n := by
  intro x hx
  obtain ⟨k, hk⟩ := List.getElem?_of_mem hx
  have := pre_le hk
  omega
theorem Ow2.toIn2 {w : World} {v : Value} {M : List (List Int)} (h : Ow2 w v M) (hm : M.length ≤ maxLen) (hx : ∀ x ∈ M, x.length ≤ maxLen) : In2 w v M :=
  OwS.toIn h hm fun _ x hxm hu => OwS.toIn hu (hx x hxm) fun _ _ _ h => h

set_option maxRecDepth 100000 in
set_option maxHeartbeats 8000000 in
theorem lawF2 (a0 : Value) (M : List (List Int)) (d : Int) (w : World) (w0 : In2 w a0 M) (w1 : (Lit.int .i64 d).wf = true) :
    Calls Tryz.prog 3 #[a0, .int .i64 d] w fun e w' => e = .returned (.bool true) ∧ Below w.heap.size w w' := by
  have qT : ∀ (w : World) (a : Option Addr) (n c n' c' : Nat), (binOp .eql 38 (.slice a n c) (.slice none n' c')).run Tryz.prog w = .ok (.bool a.isNone) w := fun w a n c n' c' => Lib.run_eql_slice_nil w _ _ a n c n' c' Tryz.underlying38
  obtain ⟨a, c, rfl⟩ := w0.shape
  have hd := bounds_i64 w1
  have hlen := w0.len.2
  unfold maxLen at hlen
  have HX := Lib.hid w0
  clear w0 w1
  go_enter Tryz.func3, Tryz.ntmps3
  go_wp2_with fail
  refine (bytes2 _ M d _ HX.out).mono ?_
  rintro e w' ⟨b, rfl, hbt, rfl⟩
  cases b
  · clear hbt
    go_wp2_with fail
    go_ret
    exact ⟨rfl, Below.refl _ _⟩
  have HSM := Lib.hid (hbt rfl)
  clear hbt
  by_cases h14 : M.length ≤ 16384
  case neg =>
    go_wp2_with fail
    go_ret
    exact ⟨rfl, Below.refl _ _⟩
  go_wp2_with fail
  go_loop [5, 6] (fun t i => ∃ k : Nat, k ≤ M.length ∧ i = .int .i64 k ∧ t = .int .i64 (pre M k) ∧ pre M k ≤ 65536) (fun _ i => M.length - (intOf i).toNat)
  case atStart => exact ⟨0, Nat.zero_le _, rfl, by rw [pre_zero]; rfl, by rw [pre_zero]; omega⟩
  case round =>
    obtain ⟨k, hk, rfl, rfl, hp⟩ := hrel
    by_cases hlt : k < M.length
    · obtain ⟨b, off, u, x, ha, hx, hc, hu⟩ := HX.out.at hlt
      subst ha
      obtain ⟨ua, uc, rfl⟩ := hu.shape
      have hul := HSM.out x (List.mem_of_getElem? hx)
      have HP := Lib.hid (pre_succ hx)
      generalize pre M k = s at hp HP ⊢
      clear hu hx
      go_wp2_with fail
      all_goals first
        | (go_ret; exact ⟨rfl, Below.refl _ _⟩)
        | (go_round
           case rel => exact ⟨k + 1, by omega, by go_num, by rw [HP.out]; go_num, by rw [HP.out]; omega⟩
           case measure => simp [intOf]; omega)
    · obtain rfl : k = M.length := by omega
      obtain ⟨L, hL⟩ : ∃ L, L = M.flatten := ⟨_, rfl⟩
      rw [pre_all M (Nat.le_refl _), ← hL] at hp ⊢
      have hML := mem_pre (by rw [← hL]; exact hp)
      have HLD := Lib.hid hL
      clear hL
      go_wp2_with fail
      refine (clone2 _ M _ (by omega) (fun x hx => by have := hML x hx; omega) HX.out).mono ?_
      rintro e w2 ⟨v2, rfl, hb2, ho2⟩
      have hi2 := ho2.toIn2 (by unfold maxLen; omega) (fun x hx => by have := hML x hx; unfold maxLen; omega)
      obtain ⟨a2, rfl⟩ := ho2.shape
      have HI2 := Lib.hid hi2
      have HB2 := Lib.hid hb2
      clear hi2 hb2 ho2 hML
      by_cases hbad : 10000 < d ∨ (d = 10000 ∧ M ≠ [])
      · have hml : d ≤ 10000 → 0 < M.length := fun h => by
          rcases hbad with h1 | ⟨_, h1⟩
          · omega
          · exact List.length_pos_iff.2 h1
        have HBAD := Lib.hid hbad
        clear hbad
        go_wp2_with fail
        refine (z2_bad _ M d _ HI2.out HBAD.out).mono ?_
        rintro e w3 ⟨T, s, rfl, hb3⟩
        have HB3 := Lib.hid (below_trans HB2.out hb3 (Nat.le_refl _))
        clear hb3
        rcases HBAD.out with h1 | ⟨h1, h2⟩
        · go_wp2_with fail
          go_ret
          exact ⟨rfl, HB3.out⟩
        · have t0 : ¬ 10000 < d := by omega
          have t1 : (d == 10000) = true := by rw [h1]; rfl
          have t2 : 0 < M.length := List.length_pos_iff.2 h2
          clear h1 h2 hml
          go_wp2_with fail
          go_ret
          exact ⟨rfl, HB3.out⟩
      · have hgood : d ≤ 10000 ∧ (d = 10000 → M = []) := ⟨by omega, fun h => Classical.byContradiction fun hne => hbad (Or.inr ⟨h, hne⟩)⟩
        have hnb : d < 10000 ∨ M.length = 0 := by
          by_cases h : d = 10000
          · right; rw [hgood.2 h]; rfl
          · left; have := hgood.1; omega
        have HG := Lib.hid hgood
        clear hbad hgood
        go_wp2_with fail
        refine (z2_good _ M d _ (by rw [← HLD.out]; exact hp) hd.1 HG.out HI2.out).mono ?_
        rw [← HLD.out]
        rintro e w3 ⟨bb, rfl, hb3, hrow⟩
        have HI3 := Lib.hid (In2.stable _ _ _ _ HI2.out hb3)
        have HB3 := Lib.hid (below_trans HB2.out hb3 (Nat.le_refl _))
        have HR := Lib.hid hrow
        clear hb3 hrow
        have t0 : ¬ 10000 < d := by have := HG.out.1; omega
        go_upto_region 14 with fail
        go_cut [54] (fun c wx => c = .bool false ∧ w3 = wx)
        case first =>
          by_cases h10 : d = 10000
          · have t1 : (d == 10000) = true := by rw [h10]; rfl
            have t2 : ¬ 0 < M.length := by rw [HG.out.2 h10]; simp
            clear h10 hnb
            go_wp2_with fail
            go_meet
            exact ⟨congrArg Value.bool (decide_eq_false (by omega)), rfl⟩
          · have t1 : (d == 10000) = false := by simpa using h10
            clear h10 hnb
            go_wp2_with fail
            go_meet
            exact ⟨congrArg Value.bool (decide_eq_false (by omega)), rfl⟩
        case rest =>
        obtain ⟨rfl, rfl⟩ := hcut
        clear t0 hnb
        go_wp2_with fail
        go_loopw [10, 11] (fun k i wx => ∃ p : Nat, p ≤ M.length ∧ i = .int .i64 p ∧ k = .int .i64 (pre M p) ∧ Below w3.heap.size w3 wx) (fun _ i _ => M.length - (intOf i).toNat)
        case atStart => exact ⟨0, Nat.zero_le _, rfl, by rw [pre_zero]; rfl, Below.refl _ _⟩
        case round =>
          obtain ⟨p, hp2, rfl, rfl, hbx⟩ := hrel
          by_cases hlt : p < M.length
          · obtain ⟨b1, off1, u1, x1, ha1, hx1, hc1, hu1⟩ := HI3.out.at hlt
            subst ha1
            obtain ⟨ua1, uc1, rfl⟩ := hu1.shape
            have hpl := pre_le hx1
            rw [← HLD.out] at hpl
            have HPS := Lib.hid (pre_succ hx1)
            have hfl : ∀ j, j < x1.length → L[pre M p + j]? = x1[j]? := fun j hj => by rw [HLD.out]; exact flat_at hx1 hj
            have HFL := Lib.hid hfl
            generalize pre M p = sp at hpl HPS HFL ⊢
            have HU1 := Lib.hid hu1
            have HC1 := Lib.hid hc1
            have HBX := Lib.hid hbx
            have hcx : wr.cell? ⟨b1, off1 + p, none⟩ = some (.slice ua1 x1.length uc1) := by rw [hbx.cell (p := ⟨b1, off1 + p, none⟩) (lt_of_cell hc1)]; exact hc1
            clear hu1 hx1 hc1 hbx hfl
            go_wp2_with fail
            go_loopw [10, 12] (fun k j wy => ∃ q : Nat, q ≤ x1.length ∧ j = .int .i64 q ∧ k = .int .i64 ((sp + q : Nat) : Int) ∧ Below w3.heap.size w3 wy) (fun _ j _ => x1.length - (intOf j).toNat)
            case atStart => exact ⟨0, Nat.zero_le _, rfl, rfl, HBX.out⟩
            case round =>
              clear hcx
              obtain ⟨q, hq, rfl, rfl, hby⟩ := hrel
              have hcy : wr.cell? ⟨b1, off1 + p, none⟩ = some (.slice ua1 x1.length uc1) := by rw [hby.cell (p := ⟨b1, off1 + p, none⟩) (lt_of_cell HC1.out)]; exact HC1.out
              by_cases hlq : q < x1.length
              · obtain ⟨b2, off2, u2, y, ha2, hy, hc2, hu2⟩ := HU1.out.at hlq
                subst ha2
                obtain rfl : u2 = .int .i64 y := hu2
                have hce : wr.cell? ⟨b2, off2 + q, none⟩ = some (.int .i64 y) := by rw [hby.cell (p := ⟨b2, off2 + q, none⟩) (lt_of_cell hc2)]; exact hc2
                have hcr : wr.cell? ⟨bb, sp + q, none⟩ = some (.int .i64 y) := by
                  have hr := HR.out.cell (i := sp + q) (by omega)
                  rw [hby.cell (p := ⟨bb, sp + q, none⟩) HR.out.lt, hr, List.getD_eq_getElem?_getD, HFL.out q hlq, hy]
                  rfl
                have HBY := Lib.hid hby
                have i1 : ((sp + q : Nat) : Int) < (L.length : Int) := by omega
                have i2 : (sp : Int) + (q : Int) < (L.length : Int) := by omega
                have i3 : sp + q < L.length := by omega
                have i4 : ((sp : Int) + (q : Int)).toNat = sp + q := by omega
                have i5 : 0 ≤ (sp : Int) + (q : Int) := by omega
                clear hby hc2 hy
                go_wp2_with fail
                go_quiet (fail)
                clear i1 i2 i3 i4 i5
                go_wp2_with fail
                go_roundw
                case rel => exact ⟨q + 1, by omega, by go_num, congrArg (Value.int .i64) (by omega), ⟨HBY.out.os, HBY.out.tape, HBY.out.output, HBY.out.size, HBY.out.block⟩⟩
                case measure => simp [intOf]; omega
              · obtain rfl : q = x1.length := by omega
                have HBY := Lib.hid hby
                clear hby
                go_wp2_with fail
                go_roundw
                case rel => exact ⟨p + 1, by omega, by go_num, by rw [HPS.out], HBY.out⟩
                case measure => simp [intOf]; omega
          · obtain rfl : p = M.length := by omega
            have HBX := Lib.hid hbx
            clear hbx
            go_wp2_with fail
            go_ret
            exact ⟨rfl, below_trans HB3.out HBX.out (by have := HB3.out.size; omega)⟩
end Go.Proofs.YtgnilcmhaobgeaaGreat

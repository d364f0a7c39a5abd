/- FnInRangeLeavesOtherShapesAlone: the walk: true at every input. Printed by rangedgen.py. -/
import Derived.Test.YtgpbhigjmkkofaaGreatRangeC
import Derived.Deep.DeepCutAuto
namespace Go.Proofs.YtgpbhigjmkkofaaGreat
open Go.RowKit Go.Deep

theorem sArr : (Tryz.prog.info? 64).isSome = true := by kernel_rfl
theorem eqF1 : (FloatKind.f64.format.order 4602678819172646912 4602678819172646912 == some Ordering.eq) = true := by kernel_rfl
theorem eqF2 : (FloatKind.f64.format.order 4609434218613702656 4609434218613702656 == some Ordering.eq) = true := by kernel_rfl
theorem Six.two {w w1 : World} {lk q n : Nat} {v : Int} {s : ByteArray} {x : Nat} (h : Six w w1 lk q n v s x) (v2 : Int) (s2 : ByteArray) (x2 : Nat) :
    Six w (((w1.alloc (.cells (nd0 [.int .i64 v2]) 52)).alloc (.cells (nd0 [.string s2]) 54)).alloc (.cells (nd0 [.float .f64 x2]) 57)) lk q n v s x ∧
    Six w (((w1.alloc (.cells (nd0 [.int .i64 v2]) 52)).alloc (.cells (nd0 [.string s2]) 54)).alloc (.cells (nd0 [.float .f64 x2]) 57)) lk q w1.heap.size v2 s2 x2 :=
  have k := Six.of h.below h.left v2 s2 x2
  ⟨h.move k.below ((((Stays.refl _).alloc _).alloc _).alloc _), k⟩

set_option maxRecDepth 100000 in
set_option maxHeartbeats 16000000 in
/-- THE WALK: at every input. -/
theorem law104 (k1 k2 k3 k4 : Int) (oi : Bool) (a b : Int) (w : World) (g1 : (Lit.int .i8 k1).wf = true) (g2 : (Lit.int .i8 k2).wf = true) (g3 : (Lit.int .i8 k3).wf = true) (g4 : (Lit.int .i8 k4).wf = true) (_ga : (Lit.int .i64 a).wf = true) (_gb : (Lit.int .i64 b).wf = true) :
    Calls Tryz.prog 3 #[.int .i8 k1, .int .i8 k2, .int .i8 k3, .int .i8 k4, .bool oi, .int .i64 a, .int .i64 b] w fun e w' => e = .returned (.bool true) ∧ Below w.heap.size w w' := by
  have M1 := Lib.hid (mod3 k1 g1)
  have M2 := Lib.hid (mod3 k2 g2)
  have M3 := Lib.hid (mod3 k3 g3)
  have M4 := Lib.hid (mod3 k4 g4)
  clear g1 g2 g3 g4 _ga _gb
  go_enter Tryz.func3, Tryz.ntmps3
  go_wp2_with fail
  refine (M1.out _).mono ?_
  rintro e w' ⟨⟨lk, hlk, rfl⟩, rfl⟩
  go_wp2_with fail
  refine (M2.out _).mono ?_
  rintro e w' ⟨⟨fk, hfk, rfl⟩, rfl⟩
  go_wp2_with fail
  refine (M3.out _).mono ?_
  rintro e w' ⟨⟨tk, htk, rfl⟩, rfl⟩
  go_wp2_with fail
  refine (M4.out _).mono ?_
  rintro e w' ⟨⟨rk, hrk, rfl⟩, rfl⟩
  go_upto_region 5 with fail
  go_cut [15, 16, 17, 18, 68] (fun s1 s2 s3 s4 c wx => s1 = .int .i64 lk ∧ s2 = .int .i64 fk ∧ s3 = .int .i64 tk ∧ s4 = .int .i64 rk ∧ c = .bool (early lk fk tk rk oi) ∧ w = wx)
  case first => as_aux_lemma =>
    cases oi
    all_goals
      go_wp2_with fail
      all_goals
        go_meet
        refine ⟨?_, ?_, ?_, ?_, ?_, rfl⟩
        · first | rfl | exact congrArg (Value.int .i64) (by omega)
        · first | rfl | exact congrArg (Value.int .i64) (by omega)
        · first | rfl | exact congrArg (Value.int .i64) (by omega)
        · first | rfl | exact congrArg (Value.int .i64) (by omega)
        · first
            | (refine congrArg Value.bool (early_no ?_).symm; simp; done)
            | (refine congrArg Value.bool (early_no ?_).symm; intro h; obtain ⟨z1, z2, z3, z4, _⟩ := h; omega)
            | (refine congrArg Value.bool (early_eq ?_ ?_ ?_).symm <;> omega)
            | (refine congrArg Value.bool (early_yes ?_).symm; simp; omega)
  case rest =>
    obtain ⟨rfl, rfl, rfl, rfl, rfl, rfl⟩ := hcut
    by_cases he : lk = 1 ∧ fk = 0 ∧ tk = 0 ∧ rk = 0 ∧ oi = true
    · rw [early_yes he]
      clear he
      go_wp2_with fail
      go_ret
      exact ⟨rfl, Below.refl _ _⟩
    · rw [early_no he]
      have HE := Lib.hid he
      clear he
      go_wp2_with fail
      refine (typedLeft lk hlk _).mono ?_
      rintro e w1 ⟨q, rfl, hb1, hl1⟩
      have HB1 := Lib.hid hb1
      have HL1 := Lib.hid hl1
      clear hb1 hl1
      go_upto_if 81 with fail
      go_cut [23] (fun s wx => FromAt w wx lk q fk w1.heap.size a ⟨#[97]⟩ 4602678819172646912 s)
      case first => as_aux_lemma =>
        rcases (by omega : fk = 0 ∨ fk = 1 ∨ fk = 2) with rfl | rfl | rfl
        all_goals
          go_wp2_with fail
          go_meet
          first
            | exact ⟨_, _, rfl, Or.inl ⟨rfl, rfl, rfl⟩, Six.of HB1.out HL1.out _ _ _⟩
            | exact ⟨_, _, rfl, Or.inr (Or.inl ⟨rfl, rfl, rfl⟩), Six.of HB1.out HL1.out _ _ _⟩
            | exact ⟨_, _, rfl, Or.inr (Or.inr ⟨rfl, rfl, rfl⟩), Six.of HB1.out HL1.out _ _ _⟩
      case rest =>
        obtain ⟨tF, pF, rfl, hbF, hs1⟩ := hcut
        obtain ⟨W1, hW1⟩ : ∃ W, W = wc := ⟨_, rfl⟩
        subst hW1
        have HBF := Lib.hid hbF
        have HS1 := Lib.hid hs1
        clear hbF hs1
        go_upto_if 98 with fail
        go_cut [27] (fun s wx => ToAt w wx lk q w1.heap.size a ⟨#[97]⟩ 4602678819172646912 tk W1.heap.size b ⟨#[98]⟩ 4609434218613702656 s)
        case first => as_aux_lemma =>
          rcases (by omega : tk = 0 ∨ tk = 1 ∨ tk = 2) with rfl | rfl | rfl
          all_goals
            go_wp2_with fail
            go_meet
            first
              | exact ⟨_, _, rfl, Or.inl ⟨rfl, rfl, rfl⟩, (HS1.out.two _ _ _).1, (HS1.out.two _ _ _).2⟩
              | exact ⟨_, _, rfl, Or.inr (Or.inl ⟨rfl, rfl, rfl⟩), (HS1.out.two _ _ _).1, (HS1.out.two _ _ _).2⟩
              | exact ⟨_, _, rfl, Or.inr (Or.inr ⟨rfl, rfl, rfl⟩), (HS1.out.two _ _ _).1, (HS1.out.two _ _ _).2⟩
        case rest =>
          obtain ⟨tT, pT, rfl, hbT, ht1, ht2⟩ := hcut
          obtain ⟨W, hW⟩ : ∃ W, W = wc := ⟨_, rfl⟩
          subst hW
          have HBT := Lib.hid hbT
          have HT1 := Lib.hid ht1
          have HT2 := Lib.hid ht2
          clear hbT ht1 ht2
          have tBin := ta_hit Tryz.underlying60 59
          have tId := ta_hit Tryz.underlying37 59
          have tArr := ta_hit Tryz.underlying61 59
          have nBin := neq_ptr_same Tryz.underlying60 sBin
          have nId := neq_ptr_same Tryz.underlying37 sId
          have nArr := neq_ptr_same Tryz.underlying61 sArr
          rcases (by omega : rk = 0 ∨ rk = 1 ∨ rk = 2) with rfl | rfl | rfl <;> cases oi
          · as_aux_lemma =>
            go_wp2_with fail
            refine (zz_op (.iface 60 (.pointer (some ⟨W.heap.size, 0, none⟩))) false (W.heap.size + 1 + 1) (W.heap.size + 1) q lk hlk _ (alloc_new' (by simp only [alloc_size])) (by rw [alloc_old _ (by simp only [alloc_size]; omega)]; exact alloc_new' (by simp only [alloc_size])) (HT1.out.left.move ((((Stays.refl W).alloc _).alloc _).alloc _)) (fun h => nomatch h)).mono ?_
            rintro e w3 ⟨rfl, hb3⟩
            have hst := Stays.trans ((((Stays.refl W).alloc _).alloc _).alloc _) (Stays.below hb3)
            have hbel : Below w.heap.size w w3 := (((((((HT1.out.below.alloc HT1.out.below.size _).alloc (by have := HT1.out.below.size; simp only [alloc_size]; omega) _).alloc (by have := HT1.out.below.size; simp only [alloc_size]; omega) _))))).trans (hb3.mono (by have := HT1.out.below.size; simp only [alloc_size]; omega))
            have hr3 : w3.heap[W.heap.size + 1 + 1]? = some (.cells #[(.iface 60 (.pointer (some ⟨W.heap.size + 1, 0, none⟩)))] 59 (0, 0)) := Stays.below hb3 _ _ (alloc_new' (by simp only [alloc_size]))
            have ho3 : w3.heap[W.heap.size + 1]? = some (.cells (nd0 [.string ⟨#[61, 61]⟩, (.iface 37 (.pointer (some ⟨q, 0, none⟩))), (.iface 60 (.pointer (some ⟨W.heap.size, 0, none⟩)))]) 66 (0, 0)) := Stays.below hb3 _ _ (by rw [alloc_old _ (by simp only [alloc_size]; omega)]; exact alloc_new' (by simp only [alloc_size]))
            have ha3 : w3.heap[W.heap.size]? = some (.cells (nd0 [.string ⟨#[46, 46]⟩, .iface tF (.pointer (some ⟨pF, 0, none⟩)), .iface tT (.pointer (some ⟨pT, 0, none⟩))]) 66 (0, 0)) := Stays.below hb3 _ _ ((((Stays.refl _).alloc _).alloc _) _ _ (alloc_new _ _))
            have c4 : w3.cell? ⟨W.heap.size, 11, none⟩ = some (.string ⟨#[46, 46]⟩) := by rw [cell_of_block ha3]; rfl
            have c5 : w3.cell? ⟨W.heap.size, 12, none⟩ = some (.iface tF (.pointer (some ⟨pF, 0, none⟩))) := by rw [cell_of_block ha3]; rfl
            have c6 : w3.cell? ⟨W.heap.size, 13, none⟩ = some (.iface tT (.pointer (some ⟨pT, 0, none⟩))) := by rw [cell_of_block ha3]; rfl
            clear ha3
            have c0 : w3.cell? ⟨W.heap.size + 1 + 1, 0, none⟩ = some (.iface 60 (.pointer (some ⟨W.heap.size + 1, 0, none⟩))) := by rw [cell_of_block hr3]; rfl
            have c1 : w3.cell? ⟨W.heap.size + 1, 11, none⟩ = some (.string ⟨#[61, 61]⟩) := by rw [cell_of_block ho3]; rfl
            have c2 : w3.cell? ⟨W.heap.size + 1, 12, none⟩ = some (.iface 37 (.pointer (some ⟨q, 0, none⟩))) := by rw [cell_of_block ho3]; rfl
            have c3 : w3.cell? ⟨W.heap.size + 1, 13, none⟩ = some (.iface 60 (.pointer (some ⟨W.heap.size, 0, none⟩))) := by rw [cell_of_block ho3]; rfl
            have c7 : w3.cell? ⟨q, 11, none⟩ = some (.string ⟨#[120]⟩) := by
              obtain ⟨c, z1, _, z3⟩ := HT1.out.left.move hst
              rw [cell_of_block z1]; exact z3
            have HI := Lib.hid hbel
            have HA1 := Lib.hid (HT1.out.move hbel hst)
            have HA2 := Lib.hid (HT2.out.move hbel hst)
            clear hb3 hst hbel hr3 ho3
            go_wp2_with fail
            refine (sameBound_yes fk tF pF _ _ _ a ⟨#[97]⟩ 4602678819172646912 _ HBF.out HA1.out.i HA1.out.d HA1.out.f eqF1).mono ?_
            rintro e w' ⟨rfl, rfl⟩
            go_wp2_with fail
            refine (sameBound_yes tk tT pT _ _ _ b ⟨#[98]⟩ 4609434218613702656 _ HBT.out HA2.out.i HA2.out.d HA2.out.f eqF2).mono ?_
            rintro e w' ⟨rfl, rfl⟩
            go_wp2_with fail
            go_ret
            exact ⟨rfl, HI.out⟩
          · as_aux_lemma =>
            go_wp2_with fail
            refine (zz_op (.iface 60 (.pointer (some ⟨W.heap.size, 0, none⟩))) true (W.heap.size + 1 + 1) (W.heap.size + 1) q lk hlk _ (alloc_new' (by simp only [alloc_size])) (by rw [alloc_old _ (by simp only [alloc_size]; omega)]; exact alloc_new' (by simp only [alloc_size])) (HT1.out.left.move ((((Stays.refl W).alloc _).alloc _).alloc _)) (fun _ h1 => by
              by_cases hf : fk = 0
              · subst hf
                have ht : tk ≠ 0 := fun ht => HE.out (by simp [h1, ht])
                have e := HBF.out.eq
                subst e
                exact Or.inr (Or.inr (Or.inr ⟨_, _, _, _, rfl, (((Stays.refl _).alloc _).alloc _) _ _ (alloc_new _ _), HBT.out.ne ht⟩))
              · exact Or.inr (Or.inr (Or.inl ⟨_, _, _, _, rfl, (((Stays.refl _).alloc _).alloc _) _ _ (alloc_new _ _), HBF.out.ne hf⟩)))).mono ?_
            rintro e w3 ⟨rfl, hb3⟩
            have hst := Stays.trans ((((Stays.refl W).alloc _).alloc _).alloc _) (Stays.below hb3)
            have hbel : Below w.heap.size w w3 := (((((((HT1.out.below.alloc HT1.out.below.size _).alloc (by have := HT1.out.below.size; simp only [alloc_size]; omega) _).alloc (by have := HT1.out.below.size; simp only [alloc_size]; omega) _))))).trans (hb3.mono (by have := HT1.out.below.size; simp only [alloc_size]; omega))
            have hr3 : w3.heap[W.heap.size + 1 + 1]? = some (.cells #[(.iface 60 (.pointer (some ⟨W.heap.size + 1, 0, none⟩)))] 59 (0, 0)) := Stays.below hb3 _ _ (alloc_new' (by simp only [alloc_size]))
            have ho3 : w3.heap[W.heap.size + 1]? = some (.cells (nd0 [.string ⟨#[105, 110]⟩, (.iface 37 (.pointer (some ⟨q, 0, none⟩))), (.iface 60 (.pointer (some ⟨W.heap.size, 0, none⟩)))]) 66 (0, 0)) := Stays.below hb3 _ _ (by rw [alloc_old _ (by simp only [alloc_size]; omega)]; exact alloc_new' (by simp only [alloc_size]))
            have ha3 : w3.heap[W.heap.size]? = some (.cells (nd0 [.string ⟨#[46, 46]⟩, .iface tF (.pointer (some ⟨pF, 0, none⟩)), .iface tT (.pointer (some ⟨pT, 0, none⟩))]) 66 (0, 0)) := Stays.below hb3 _ _ ((((Stays.refl _).alloc _).alloc _) _ _ (alloc_new _ _))
            have c4 : w3.cell? ⟨W.heap.size, 11, none⟩ = some (.string ⟨#[46, 46]⟩) := by rw [cell_of_block ha3]; rfl
            have c5 : w3.cell? ⟨W.heap.size, 12, none⟩ = some (.iface tF (.pointer (some ⟨pF, 0, none⟩))) := by rw [cell_of_block ha3]; rfl
            have c6 : w3.cell? ⟨W.heap.size, 13, none⟩ = some (.iface tT (.pointer (some ⟨pT, 0, none⟩))) := by rw [cell_of_block ha3]; rfl
            clear ha3
            have c0 : w3.cell? ⟨W.heap.size + 1 + 1, 0, none⟩ = some (.iface 60 (.pointer (some ⟨W.heap.size + 1, 0, none⟩))) := by rw [cell_of_block hr3]; rfl
            have c1 : w3.cell? ⟨W.heap.size + 1, 11, none⟩ = some (.string ⟨#[105, 110]⟩) := by rw [cell_of_block ho3]; rfl
            have c2 : w3.cell? ⟨W.heap.size + 1, 12, none⟩ = some (.iface 37 (.pointer (some ⟨q, 0, none⟩))) := by rw [cell_of_block ho3]; rfl
            have c3 : w3.cell? ⟨W.heap.size + 1, 13, none⟩ = some (.iface 60 (.pointer (some ⟨W.heap.size, 0, none⟩))) := by rw [cell_of_block ho3]; rfl
            have c7 : w3.cell? ⟨q, 11, none⟩ = some (.string ⟨#[120]⟩) := by
              obtain ⟨c, z1, _, z3⟩ := HT1.out.left.move hst
              rw [cell_of_block z1]; exact z3
            have HI := Lib.hid hbel
            have HA1 := Lib.hid (HT1.out.move hbel hst)
            have HA2 := Lib.hid (HT2.out.move hbel hst)
            clear hb3 hst hbel hr3 ho3
            go_wp2_with fail
            refine (sameBound_yes fk tF pF _ _ _ a ⟨#[97]⟩ 4602678819172646912 _ HBF.out HA1.out.i HA1.out.d HA1.out.f eqF1).mono ?_
            rintro e w' ⟨rfl, rfl⟩
            go_wp2_with fail
            refine (sameBound_yes tk tT pT _ _ _ b ⟨#[98]⟩ 4609434218613702656 _ HBT.out HA2.out.i HA2.out.d HA2.out.f eqF2).mono ?_
            rintro e w' ⟨rfl, rfl⟩
            go_wp2_with fail
            go_ret
            exact ⟨rfl, HI.out⟩
          · as_aux_lemma =>
            go_wp2_with fail
            refine (zz_op (.iface 60 (.pointer (some ⟨W.heap.size, 0, none⟩))) false (W.heap.size + 1 + 1) (W.heap.size + 1) q lk hlk _ (alloc_new' (by simp only [alloc_size])) (by rw [alloc_old _ (by simp only [alloc_size]; omega)]; exact alloc_new' (by simp only [alloc_size])) (HT1.out.left.move ((((Stays.refl W).alloc _).alloc _).alloc _)) (fun h => nomatch h)).mono ?_
            rintro e w3 ⟨rfl, hb3⟩
            have hst := Stays.trans ((((Stays.refl W).alloc _).alloc _).alloc _) (Stays.below hb3)
            have hbel : Below w.heap.size w w3 := (((((((HT1.out.below.alloc HT1.out.below.size _).alloc (by have := HT1.out.below.size; simp only [alloc_size]; omega) _).alloc (by have := HT1.out.below.size; simp only [alloc_size]; omega) _))))).trans (hb3.mono (by have := HT1.out.below.size; simp only [alloc_size]; omega))
            have hr3 : w3.heap[W.heap.size + 1 + 1]? = some (.cells #[(.iface 60 (.pointer (some ⟨W.heap.size + 1, 0, none⟩)))] 59 (0, 0)) := Stays.below hb3 _ _ (alloc_new' (by simp only [alloc_size]))
            have ho3 : w3.heap[W.heap.size + 1]? = some (.cells (nd0 [.string ⟨#[61, 61]⟩, (.iface 37 (.pointer (some ⟨q, 0, none⟩))), (.iface 60 (.pointer (some ⟨W.heap.size, 0, none⟩)))]) 66 (0, 0)) := Stays.below hb3 _ _ (by rw [alloc_old _ (by simp only [alloc_size]; omega)]; exact alloc_new' (by simp only [alloc_size]))
            have ha3 : w3.heap[W.heap.size]? = some (.cells (nd0 [.string ⟨#[43]⟩, .iface tF (.pointer (some ⟨pF, 0, none⟩)), .iface tT (.pointer (some ⟨pT, 0, none⟩))]) 66 (0, 0)) := Stays.below hb3 _ _ ((((Stays.refl _).alloc _).alloc _) _ _ (alloc_new _ _))
            have c4 : w3.cell? ⟨W.heap.size, 11, none⟩ = some (.string ⟨#[43]⟩) := by rw [cell_of_block ha3]; rfl
            have c5 : w3.cell? ⟨W.heap.size, 12, none⟩ = some (.iface tF (.pointer (some ⟨pF, 0, none⟩))) := by rw [cell_of_block ha3]; rfl
            have c6 : w3.cell? ⟨W.heap.size, 13, none⟩ = some (.iface tT (.pointer (some ⟨pT, 0, none⟩))) := by rw [cell_of_block ha3]; rfl
            clear ha3
            have c0 : w3.cell? ⟨W.heap.size + 1 + 1, 0, none⟩ = some (.iface 60 (.pointer (some ⟨W.heap.size + 1, 0, none⟩))) := by rw [cell_of_block hr3]; rfl
            have c1 : w3.cell? ⟨W.heap.size + 1, 11, none⟩ = some (.string ⟨#[61, 61]⟩) := by rw [cell_of_block ho3]; rfl
            have c2 : w3.cell? ⟨W.heap.size + 1, 12, none⟩ = some (.iface 37 (.pointer (some ⟨q, 0, none⟩))) := by rw [cell_of_block ho3]; rfl
            have c3 : w3.cell? ⟨W.heap.size + 1, 13, none⟩ = some (.iface 60 (.pointer (some ⟨W.heap.size, 0, none⟩))) := by rw [cell_of_block ho3]; rfl
            have c7 : w3.cell? ⟨q, 11, none⟩ = some (.string ⟨#[120]⟩) := by
              obtain ⟨c, z1, _, z3⟩ := HT1.out.left.move hst
              rw [cell_of_block z1]; exact z3
            have HI := Lib.hid hbel
            have HA1 := Lib.hid (HT1.out.move hbel hst)
            have HA2 := Lib.hid (HT2.out.move hbel hst)
            clear hb3 hst hbel hr3 ho3
            go_wp2_with fail
            refine (sameBound_yes fk tF pF _ _ _ a ⟨#[97]⟩ 4602678819172646912 _ HBF.out HA1.out.i HA1.out.d HA1.out.f eqF1).mono ?_
            rintro e w' ⟨rfl, rfl⟩
            go_wp2_with fail
            refine (sameBound_yes tk tT pT _ _ _ b ⟨#[98]⟩ 4609434218613702656 _ HBT.out HA2.out.i HA2.out.d HA2.out.f eqF2).mono ?_
            rintro e w' ⟨rfl, rfl⟩
            go_wp2_with fail
            go_ret
            exact ⟨rfl, HI.out⟩
          · as_aux_lemma =>
            go_wp2_with fail
            refine (zz_op (.iface 60 (.pointer (some ⟨W.heap.size, 0, none⟩))) true (W.heap.size + 1 + 1) (W.heap.size + 1) q lk hlk _ (alloc_new' (by simp only [alloc_size])) (by rw [alloc_old _ (by simp only [alloc_size]; omega)]; exact alloc_new' (by simp only [alloc_size])) (HT1.out.left.move ((((Stays.refl W).alloc _).alloc _).alloc _)) (fun _ _ => Or.inr (Or.inl ⟨_, _, _, rfl, (((Stays.refl _).alloc _).alloc _) _ _ (alloc_new _ _)⟩))).mono ?_
            rintro e w3 ⟨rfl, hb3⟩
            have hst := Stays.trans ((((Stays.refl W).alloc _).alloc _).alloc _) (Stays.below hb3)
            have hbel : Below w.heap.size w w3 := (((((((HT1.out.below.alloc HT1.out.below.size _).alloc (by have := HT1.out.below.size; simp only [alloc_size]; omega) _).alloc (by have := HT1.out.below.size; simp only [alloc_size]; omega) _))))).trans (hb3.mono (by have := HT1.out.below.size; simp only [alloc_size]; omega))
            have hr3 : w3.heap[W.heap.size + 1 + 1]? = some (.cells #[(.iface 60 (.pointer (some ⟨W.heap.size + 1, 0, none⟩)))] 59 (0, 0)) := Stays.below hb3 _ _ (alloc_new' (by simp only [alloc_size]))
            have ho3 : w3.heap[W.heap.size + 1]? = some (.cells (nd0 [.string ⟨#[105, 110]⟩, (.iface 37 (.pointer (some ⟨q, 0, none⟩))), (.iface 60 (.pointer (some ⟨W.heap.size, 0, none⟩)))]) 66 (0, 0)) := Stays.below hb3 _ _ (by rw [alloc_old _ (by simp only [alloc_size]; omega)]; exact alloc_new' (by simp only [alloc_size]))
            have ha3 : w3.heap[W.heap.size]? = some (.cells (nd0 [.string ⟨#[43]⟩, .iface tF (.pointer (some ⟨pF, 0, none⟩)), .iface tT (.pointer (some ⟨pT, 0, none⟩))]) 66 (0, 0)) := Stays.below hb3 _ _ ((((Stays.refl _).alloc _).alloc _) _ _ (alloc_new _ _))
            have c4 : w3.cell? ⟨W.heap.size, 11, none⟩ = some (.string ⟨#[43]⟩) := by rw [cell_of_block ha3]; rfl
            have c5 : w3.cell? ⟨W.heap.size, 12, none⟩ = some (.iface tF (.pointer (some ⟨pF, 0, none⟩))) := by rw [cell_of_block ha3]; rfl
            have c6 : w3.cell? ⟨W.heap.size, 13, none⟩ = some (.iface tT (.pointer (some ⟨pT, 0, none⟩))) := by rw [cell_of_block ha3]; rfl
            clear ha3
            have c0 : w3.cell? ⟨W.heap.size + 1 + 1, 0, none⟩ = some (.iface 60 (.pointer (some ⟨W.heap.size + 1, 0, none⟩))) := by rw [cell_of_block hr3]; rfl
            have c1 : w3.cell? ⟨W.heap.size + 1, 11, none⟩ = some (.string ⟨#[105, 110]⟩) := by rw [cell_of_block ho3]; rfl
            have c2 : w3.cell? ⟨W.heap.size + 1, 12, none⟩ = some (.iface 37 (.pointer (some ⟨q, 0, none⟩))) := by rw [cell_of_block ho3]; rfl
            have c3 : w3.cell? ⟨W.heap.size + 1, 13, none⟩ = some (.iface 60 (.pointer (some ⟨W.heap.size, 0, none⟩))) := by rw [cell_of_block ho3]; rfl
            have c7 : w3.cell? ⟨q, 11, none⟩ = some (.string ⟨#[120]⟩) := by
              obtain ⟨c, z1, _, z3⟩ := HT1.out.left.move hst
              rw [cell_of_block z1]; exact z3
            have HI := Lib.hid hbel
            have HA1 := Lib.hid (HT1.out.move hbel hst)
            have HA2 := Lib.hid (HT2.out.move hbel hst)
            clear hb3 hst hbel hr3 ho3
            go_wp2_with fail
            refine (sameBound_yes fk tF pF _ _ _ a ⟨#[97]⟩ 4602678819172646912 _ HBF.out HA1.out.i HA1.out.d HA1.out.f eqF1).mono ?_
            rintro e w' ⟨rfl, rfl⟩
            go_wp2_with fail
            refine (sameBound_yes tk tT pT _ _ _ b ⟨#[98]⟩ 4609434218613702656 _ HBT.out HA2.out.i HA2.out.d HA2.out.f eqF2).mono ?_
            rintro e w' ⟨rfl, rfl⟩
            go_wp2_with fail
            go_ret
            exact ⟨rfl, HI.out⟩
          · as_aux_lemma =>
            go_wp2_with fail
            refine (zz_op (.iface 61 (.pointer (some ⟨W.heap.size + 1, 0, none⟩))) false (W.heap.size + 1 + 1 + 1) (W.heap.size + 1 + 1) q lk hlk _ (alloc_new' (by simp only [alloc_size])) (by rw [alloc_old _ (by simp only [alloc_size]; omega)]; exact alloc_new' (by simp only [alloc_size])) (HT1.out.left.move (((((Stays.refl W).alloc _).alloc _).alloc _).alloc _)) (fun h => nomatch h)).mono ?_
            rintro e w3 ⟨rfl, hb3⟩
            have hst := Stays.trans (((((Stays.refl W).alloc _).alloc _).alloc _).alloc _) (Stays.below hb3)
            have hbel : Below w.heap.size w w3 := ((((((((HT1.out.below.alloc HT1.out.below.size _).alloc (by have := HT1.out.below.size; simp only [alloc_size]; omega) _).alloc (by have := HT1.out.below.size; simp only [alloc_size]; omega) _).alloc (by have := HT1.out.below.size; simp only [alloc_size]; omega) _))))).trans (hb3.mono (by have := HT1.out.below.size; simp only [alloc_size]; omega))
            have hr3 : w3.heap[W.heap.size + 1 + 1 + 1]? = some (.cells #[(.iface 60 (.pointer (some ⟨W.heap.size + 1 + 1, 0, none⟩)))] 59 (0, 0)) := Stays.below hb3 _ _ (alloc_new' (by simp only [alloc_size]))
            have ho3 : w3.heap[W.heap.size + 1 + 1]? = some (.cells (nd0 [.string ⟨#[61, 61]⟩, (.iface 37 (.pointer (some ⟨q, 0, none⟩))), (.iface 61 (.pointer (some ⟨W.heap.size + 1, 0, none⟩)))]) 66 (0, 0)) := Stays.below hb3 _ _ (by rw [alloc_old _ (by simp only [alloc_size]; omega)]; exact alloc_new' (by simp only [alloc_size]))
            have ha3 : w3.heap[W.heap.size + 1]? = some (.cells (nd0 [(.slice (some ⟨W.heap.size, 0, none⟩) 2 2)]) 64 (0, 0)) := Stays.below hb3 _ _ ((((Stays.refl _).alloc _).alloc _) _ _ (alloc_new' (by simp only [alloc_size])))
            have hn3 : w3.heap[W.heap.size]? = some (.cells #[.iface tF (.pointer (some ⟨pF, 0, none⟩)), .iface tT (.pointer (some ⟨pT, 0, none⟩))] 59 (0, 0)) := Stays.below hb3 _ _ (((((Stays.refl _).alloc _).alloc _).alloc _) _ _ (alloc_new _ _))
            have c4 : w3.cell? ⟨W.heap.size + 1, 11, none⟩ = some (.slice (some ⟨W.heap.size, 0, none⟩) 2 2) := by rw [cell_of_block ha3]; rfl
            have c5 : w3.cell? ⟨W.heap.size, 0, none⟩ = some (.iface tF (.pointer (some ⟨pF, 0, none⟩))) := by rw [cell_of_block hn3]; rfl
            have c6 : w3.cell? ⟨W.heap.size, 1, none⟩ = some (.iface tT (.pointer (some ⟨pT, 0, none⟩))) := by rw [cell_of_block hn3]; rfl
            clear ha3 hn3
            have c0 : w3.cell? ⟨W.heap.size + 1 + 1 + 1, 0, none⟩ = some (.iface 60 (.pointer (some ⟨W.heap.size + 1 + 1, 0, none⟩))) := by rw [cell_of_block hr3]; rfl
            have c1 : w3.cell? ⟨W.heap.size + 1 + 1, 11, none⟩ = some (.string ⟨#[61, 61]⟩) := by rw [cell_of_block ho3]; rfl
            have c2 : w3.cell? ⟨W.heap.size + 1 + 1, 12, none⟩ = some (.iface 37 (.pointer (some ⟨q, 0, none⟩))) := by rw [cell_of_block ho3]; rfl
            have c3 : w3.cell? ⟨W.heap.size + 1 + 1, 13, none⟩ = some (.iface 61 (.pointer (some ⟨W.heap.size + 1, 0, none⟩))) := by rw [cell_of_block ho3]; rfl
            have c7 : w3.cell? ⟨q, 11, none⟩ = some (.string ⟨#[120]⟩) := by
              obtain ⟨c, z1, _, z3⟩ := HT1.out.left.move hst
              rw [cell_of_block z1]; exact z3
            have HI := Lib.hid hbel
            have HA1 := Lib.hid (HT1.out.move hbel hst)
            have HA2 := Lib.hid (HT2.out.move hbel hst)
            clear hb3 hst hbel hr3 ho3
            go_wp2_with fail
            refine (sameBound_yes fk tF pF _ _ _ a ⟨#[97]⟩ 4602678819172646912 _ HBF.out HA1.out.i HA1.out.d HA1.out.f eqF1).mono ?_
            rintro e w' ⟨rfl, rfl⟩
            go_wp2_with fail
            refine (sameBound_yes tk tT pT _ _ _ b ⟨#[98]⟩ 4609434218613702656 _ HBT.out HA2.out.i HA2.out.d HA2.out.f eqF2).mono ?_
            rintro e w' ⟨rfl, rfl⟩
            go_wp2_with fail
            go_ret
            exact ⟨rfl, HI.out⟩
          · as_aux_lemma =>
            go_wp2_with fail
            refine (zz_op (.iface 61 (.pointer (some ⟨W.heap.size + 1, 0, none⟩))) true (W.heap.size + 1 + 1 + 1) (W.heap.size + 1 + 1) q lk hlk _ (alloc_new' (by simp only [alloc_size])) (by rw [alloc_old _ (by simp only [alloc_size]; omega)]; exact alloc_new' (by simp only [alloc_size])) (HT1.out.left.move (((((Stays.refl W).alloc _).alloc _).alloc _).alloc _)) (fun _ _ => Or.inl ⟨_, _, rfl, by decide⟩)).mono ?_
            rintro e w3 ⟨rfl, hb3⟩
            have hst := Stays.trans (((((Stays.refl W).alloc _).alloc _).alloc _).alloc _) (Stays.below hb3)
            have hbel : Below w.heap.size w w3 := ((((((((HT1.out.below.alloc HT1.out.below.size _).alloc (by have := HT1.out.below.size; simp only [alloc_size]; omega) _).alloc (by have := HT1.out.below.size; simp only [alloc_size]; omega) _).alloc (by have := HT1.out.below.size; simp only [alloc_size]; omega) _))))).trans (hb3.mono (by have := HT1.out.below.size; simp only [alloc_size]; omega))
            have hr3 : w3.heap[W.heap.size + 1 + 1 + 1]? = some (.cells #[(.iface 60 (.pointer (some ⟨W.heap.size + 1 + 1, 0, none⟩)))] 59 (0, 0)) := Stays.below hb3 _ _ (alloc_new' (by simp only [alloc_size]))
            have ho3 : w3.heap[W.heap.size + 1 + 1]? = some (.cells (nd0 [.string ⟨#[105, 110]⟩, (.iface 37 (.pointer (some ⟨q, 0, none⟩))), (.iface 61 (.pointer (some ⟨W.heap.size + 1, 0, none⟩)))]) 66 (0, 0)) := Stays.below hb3 _ _ (by rw [alloc_old _ (by simp only [alloc_size]; omega)]; exact alloc_new' (by simp only [alloc_size]))
            have ha3 : w3.heap[W.heap.size + 1]? = some (.cells (nd0 [(.slice (some ⟨W.heap.size, 0, none⟩) 2 2)]) 64 (0, 0)) := Stays.below hb3 _ _ ((((Stays.refl _).alloc _).alloc _) _ _ (alloc_new' (by simp only [alloc_size])))
            have hn3 : w3.heap[W.heap.size]? = some (.cells #[.iface tF (.pointer (some ⟨pF, 0, none⟩)), .iface tT (.pointer (some ⟨pT, 0, none⟩))] 59 (0, 0)) := Stays.below hb3 _ _ (((((Stays.refl _).alloc _).alloc _).alloc _) _ _ (alloc_new _ _))
            have c4 : w3.cell? ⟨W.heap.size + 1, 11, none⟩ = some (.slice (some ⟨W.heap.size, 0, none⟩) 2 2) := by rw [cell_of_block ha3]; rfl
            have c5 : w3.cell? ⟨W.heap.size, 0, none⟩ = some (.iface tF (.pointer (some ⟨pF, 0, none⟩))) := by rw [cell_of_block hn3]; rfl
            have c6 : w3.cell? ⟨W.heap.size, 1, none⟩ = some (.iface tT (.pointer (some ⟨pT, 0, none⟩))) := by rw [cell_of_block hn3]; rfl
            clear ha3 hn3
            have c0 : w3.cell? ⟨W.heap.size + 1 + 1 + 1, 0, none⟩ = some (.iface 60 (.pointer (some ⟨W.heap.size + 1 + 1, 0, none⟩))) := by rw [cell_of_block hr3]; rfl
            have c1 : w3.cell? ⟨W.heap.size + 1 + 1, 11, none⟩ = some (.string ⟨#[105, 110]⟩) := by rw [cell_of_block ho3]; rfl
            have c2 : w3.cell? ⟨W.heap.size + 1 + 1, 12, none⟩ = some (.iface 37 (.pointer (some ⟨q, 0, none⟩))) := by rw [cell_of_block ho3]; rfl
            have c3 : w3.cell? ⟨W.heap.size + 1 + 1, 13, none⟩ = some (.iface 61 (.pointer (some ⟨W.heap.size + 1, 0, none⟩))) := by rw [cell_of_block ho3]; rfl
            have c7 : w3.cell? ⟨q, 11, none⟩ = some (.string ⟨#[120]⟩) := by
              obtain ⟨c, z1, _, z3⟩ := HT1.out.left.move hst
              rw [cell_of_block z1]; exact z3
            have HI := Lib.hid hbel
            have HA1 := Lib.hid (HT1.out.move hbel hst)
            have HA2 := Lib.hid (HT2.out.move hbel hst)
            clear hb3 hst hbel hr3 ho3
            go_wp2_with fail
            refine (sameBound_yes fk tF pF _ _ _ a ⟨#[97]⟩ 4602678819172646912 _ HBF.out HA1.out.i HA1.out.d HA1.out.f eqF1).mono ?_
            rintro e w' ⟨rfl, rfl⟩
            go_wp2_with fail
            refine (sameBound_yes tk tT pT _ _ _ b ⟨#[98]⟩ 4609434218613702656 _ HBT.out HA2.out.i HA2.out.d HA2.out.f eqF2).mono ?_
            rintro e w' ⟨rfl, rfl⟩
            go_wp2_with fail
            go_ret
            exact ⟨rfl, HI.out⟩
end Go.Proofs.YtgpbhigjmkkofaaGreat

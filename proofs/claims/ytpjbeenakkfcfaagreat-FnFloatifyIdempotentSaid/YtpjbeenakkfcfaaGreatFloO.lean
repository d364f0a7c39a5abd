/- Floatify: buildSpine. -/
import Derived.Test.YtpjbeenakkfcfaaGreatFloM
import Derived.RegionTactic
import Derived.BigRegion
import Derived.Deep.DeepCutAuto
import Derived.Deep.QuietTactic
import Derived.BigQuiet
namespace Go.Proofs.YtpjbeenakkfcfaaGreat
open Go.RowKit Go.Deep

theorem infoPInt : (Tryz.prog.info? 53).map (fun i => (i.zero, i.size, i.bytes)) = some (some (.pointer none), 1, 8) := by kernel_rfl
theorem infoPUna : (Tryz.prog.info? 74).map (fun i => (i.zero, i.size, i.bytes)) = some (some (.pointer none), 1, 8) := by kernel_rfl
theorem infoPBin : (Tryz.prog.info? 50).map (fun i => (i.zero, i.size, i.bytes)) = some (some (.pointer none), 1, 8) := by kernel_rfl

/-- behind the composite: the struct and its three rows -/
structure Begun (w0 wr : World) (rb sb lv un bi n : Nat) : Prop where
  below : Below w0.heap.size w0 wr
  nsb : w0.heap.size ≤ sb
  nlv : w0.heap.size ≤ lv
  nun : w0.heap.size ≤ un
  nbi : w0.heap.size ≤ bi
  hrs : rb ≠ sb
  res : wr.heap[rb]? = some (.cells #[.nilIface, .slice none 0 0, .slice none 0 0, .slice none 0 0] 46 (0, 0))
  loc : wr.heap[sb]? = some (.cells #[.nilIface, (.slice (some ⟨lv, 0, none⟩) (n + 1) (n + 1)), (.slice (some ⟨un, 0, none⟩) n n), (.slice (some ⟨bi, 0, none⟩) n n)] 46 (0, 0))
  lvs : wr.rowIs lv 53 (n + 1) (fun _ => .pointer none)
  uns : wr.rowIs un 74 n (fun _ => .pointer none)
  bis : wr.rowIs bi 50 n (fun _ => .pointer none)

theorem drew_heap (w : World) (k : Nat) : w.drew.heap[k]? = w.heap[k]? := rfl
theorem Begun.of {w0 wr : World} {sb lv un bi n : Nat} (loc : wr.heap[sb]? = some (.cells #[.nilIface, (.slice (some ⟨lv, 0, none⟩) (n + 1) (n + 1)), (.slice (some ⟨un, 0, none⟩) n n), (.slice (some ⟨bi, 0, none⟩) n n)] 46 (0, 0)))
    (res : wr.heap[w0.heap.size]? = some (.cells #[.nilIface, .slice none 0 0, .slice none 0 0, .slice none 0 0] 46 (0, 0)))
    (hl : wr.heap[lv]? = some (.cells (madeCells #[.pointer none] (n + 1)) 53 (0, 0))) (hu : wr.heap[un]? = some (.cells (madeCells #[.pointer none] n) 74 (0, 0))) (hb : wr.heap[bi]? = some (.cells (madeCells #[.pointer none] n) 50 (0, 0)))
    (below : Below w0.heap.size w0 wr) (g : w0.heap.size < sb ∧ w0.heap.size < lv ∧ w0.heap.size < un ∧ w0.heap.size < bi) : Begun w0 wr w0.heap.size sb lv un bi n := by
  obtain ⟨g1, g2, g3, g4⟩ := g
  have hm : ∀ k i, i < k → (madeCells #[Value.pointer none] k)[i]? = some (.pointer none) := fun k i hi => by simp [madeCells, hi, Nat.mod_one]
  exact ⟨below, by omega, by omega, by omega, by omega, by omega, res, loc, ⟨_, hl, size_madeCells _ _, hm _⟩, ⟨_, hu, size_madeCells _ _, hm _⟩, ⟨_, hb, size_madeCells _ _, hm _⟩⟩
theorem Begun.ex {w0 wr : World} {sb lv un bi n : Nat} (loc : wr.heap[sb]? = some (.cells #[.nilIface, (.slice (some ⟨lv, 0, none⟩) (n + 1) (n + 1)), (.slice (some ⟨un, 0, none⟩) n n), (.slice (some ⟨bi, 0, none⟩) n n)] 46 (0, 0)))
    (res : wr.heap[w0.heap.size]? = some (.cells #[.nilIface, .slice none 0 0, .slice none 0 0, .slice none 0 0] 46 (0, 0)))
    (hl : wr.heap[lv]? = some (.cells (madeCells #[.pointer none] (n + 1)) 53 (0, 0))) (hu : wr.heap[un]? = some (.cells (madeCells #[.pointer none] n) 74 (0, 0))) (hb : wr.heap[bi]? = some (.cells (madeCells #[.pointer none] n) 50 (0, 0)))
    (below : Below w0.heap.size w0 wr) (g : w0.heap.size < sb ∧ w0.heap.size < lv ∧ w0.heap.size < un ∧ w0.heap.size < bi) :
    ∃ sb' lv un bi, Value.pointer (some ⟨sb, 0, none⟩) = .pointer (some ⟨sb', 0, none⟩) ∧ Begun w0 wr w0.heap.size sb' lv un bi n := ⟨sb, lv, un, bi, rfl, Begun.of loc res hl hu hb below g⟩
theorem Begun.start {w0 wr : World} {rb sb lv un bi n : Nat} (h : Begun w0 wr rb sb lv un bi n) (code : Nat → Nat) (val : Nat → Int) :
    Built code (fun _ => 0) (fun _ => wr.heap.size) val w0 (((wr.setCell ⟨lv, 0, none⟩ (ptr wr.heap.size)).setCell ⟨sb, 0, none⟩ (.iface 53 (.pointer (some ⟨wr.heap.size, 0, none⟩)))).alloc (.cells (nd0 [.int .i64 (val 0)]) 73)) rb sb lv un bi n 0 := by
  have l0 := lt_of_heap h.res
  have l1 := lt_of_heap h.loc
  have n1 : lv ≠ sb := row_ne_block h.lvs h.loc (by decide)
  have n2 : un ≠ sb := row_ne_block h.uns h.loc (by decide)
  have n3 : bi ≠ sb := row_ne_block h.bis h.loc (by decide)
  have n4 : un ≠ lv := row_ne h.uns h.lvs (by decide)
  have n5 : bi ≠ lv := row_ne h.bis h.lvs (by decide)
  have n7 : lv ≠ rb := row_ne_block h.lvs h.res (by decide)
  have es : ((wr.setCell ⟨lv, 0, none⟩ (ptr wr.heap.size)).setCell ⟨sb, 0, none⟩ (.iface 53 (.pointer (some ⟨wr.heap.size, 0, none⟩)))).heap.size = wr.heap.size := by rw [set_size, set_size]
  refine ⟨((h.below.setCell h.nlv _).setCell h.nsb _).alloc (by rw [es]; exact h.below.size) _, h.nsb, h.nlv, h.nun, h.nbi, h.hrs, ?_, ?_, ?_, ?_, ?_, ⟨fun i hi => by omega, fun i hi _ => ?_⟩, ⟨fun i _ hi => by omega, fun i _ hi => by omega⟩, fun i _ => by rw [alloc_size, es]; omega, fun i hi => by omega⟩
  · rw [alloc_old _ (by rw [es]; exact l0), set_other h.hrs, set_other (fun e => n7 e.symm)]; exact h.res
  · rw [alloc_old _ (by rw [es]; exact l1)]
    refine (set_block (by rw [set_other (fun e => n1 e.symm)]; exact h.loc) _ _).trans ?_
    simp [nodeV]
  · refine (((h.lvs.set 0 _).setOther n1 _).alloc _).congr fun i hi => ?_
    by_cases e : i = 0
    · subst e; simp [lvF]
    · simp [lvF, e]
  · refine (((h.uns.setOther n4 _).setOther n2 _).alloc _).congr fun i hi => ?_
    simp [unF]
  · refine (((h.bis.setOther n5 _).setOther n3 _).alloc _).congr fun i hi => ?_
    simp [biF]
  · obtain rfl : i = 0 := by omega
    exact alloc_new' (by rw [es])

theorem opName_at (x : Int) (h1 : 1 ≤ x) (h2 : x ≤ 6) (w : World) : Calls Tryz.prog 15 #[.int .u8 x] w fun e w' => e = .returned (.string (opName x.toNat)) ∧ w = w' := by
  obtain ⟨c, rfl⟩ := Int.eq_ofNat_of_zero_le (show 0 ≤ x by omega)
  exact opName_any c (by omega) (by omega) w
theorem Built.drew {code nb lb : Nat → Nat} {val : Nat → Int} {w0 wr : World} {rb sb lv un bi n k : Nat} (h : Built code nb lb val w0 wr rb sb lv un bi n k) : Built code nb lb val w0 wr.drew rb sb lv un bi n k :=
  ⟨h.below.drew, h.nsb, h.nlv, h.nun, h.nbi, h.hrs, h.res, h.loc, h.lvs, h.uns, h.bis, ⟨h.spine.level, h.spine.leaf⟩, h.apart, h.lbs, h.nnb⟩
theorem Built.tree {code nb lb : Nat → Nat} {val : Nat → Int} {w0 wr w' : World} {rb sb lv un bi n : Nat} (h : Built code nb lb val w0 wr rb sb lv un bi n n) (hrb : w0.heap.size ≤ rb) (hw : Wr [rb] wr w') : Tree code nb lb val w0 w' lv un bi n := by
  obtain ⟨n1, n2, n3, n4, n5, n6, n7, n8, n9⟩ := h.nes
  have ha := h.spine.away h.res (by decide) (by decide) (by decide)
  have hrow : ∀ (b k : Nat) (U : TypeId) (f : Nat → Value), wr.rowIs b U k f → b ≠ rb → w'.rowIs b U k f := fun b k U f hr hne => hr.of_block (hw.block b hr.lt (by simpa using hne))
  refine ⟨h.below.trans (hw.below h.below.size (by simpa using hrb)), hrow _ _ _ _ h.lvs n7, hrow _ _ _ _ h.uns n8, hrow _ _ _ _ h.bis n9, ⟨fun i hi => ?_, fun i hi hh => ?_⟩, h.apart, fun i hi => Nat.lt_of_lt_of_le (h.lbs i hi) hw.size, h.nnb⟩
  · rcases h.spine.level i hi with ⟨x, y⟩ | ⟨x, y⟩
    · exact Or.inl ⟨x, hw.keep y (by simpa using ha.1 i hi)⟩
    · exact Or.inr ⟨x, hw.keep y (by simpa using ha.1 i hi)⟩
  · exact hw.keep (h.spine.leaf i hi hh) (by simpa using ha.2 i hi hh)
theorem nodeV_iface (code nb lb : Nat → Nat) (k : Nat) : ∃ T p, nodeV code nb lb k = .iface T (.pointer (some ⟨p, 0, none⟩)) := by
  cases k with
  | zero => exact ⟨_, _, rfl⟩
  | succ k =>
    simp only [nodeV]
    split
    · exact ⟨_, _, rfl⟩
    · exact ⟨_, _, rfl⟩

set_option maxRecDepth 100000 in
set_option maxHeartbeats 4000000 in
theorem build_any (ao : Option Addr) (vb n m : Nat) (hn : n ≤ 4096) (hm : n + 1 ≤ m) (hm2 : m ≤ 4097) (z : Nat → Int) (val : Nat → Int) (w : World) (hz : ∀ i, i < n → 0 ≤ z i ∧ z i ≤ 255) (hc : Own w ao n 5 (fun i => .int .u8 (z i))) (hv : w.rowIs vb 3 m (fun i => .int .i64 (val i))) :
    Calls Tryz.prog 8 #[.slice ao n n, (.slice (some ⟨vb, 0, none⟩) m m)] w (BuildPost (fun i => (z i % 7).toNat) val n w) := by
  have mk1 : ∀ w : World, (Instr.makeSlice 42 (.int .i64 ((n : Int) + 1)) (.int .i64 ((n : Int) + 1))).run Tryz.prog w = .ok (.slice (some ⟨w.heap.size, 0, none⟩) (n + 1) (n + 1)) (w.alloc (.cells (madeCells #[.pointer none] (n + 1)) 53)) :=
    run_make_row' (P := Tryz.prog) 42 53 _ _ Tryz.underlying42 infoPInt rfl .i64 .i64 (n + 1) (by omega) (by omega)
  have mk2 := run_make_row' (P := Tryz.prog) 43 74 _ _ Tryz.underlying43 infoPUna rfl .i64 .i64 n (by omega) (by omega)
  have mk3 := run_make_row' (P := Tryz.prog) 44 50 _ _ Tryz.underlying44 infoPBin rfl .i64 .i64 n (by omega) (by omega)
  have lvb : vb < w.heap.size := hv.lt
  have HC := Lib.hid hc
  have HV := Lib.hid hv
  have HZ := Lib.hid hz
  clear hc hv hz
  go_enter Tryz.func8, Tryz.ntmps8
  go_upto_region 2 with fail
  go_cut [5, 6] (fun s5 s6 wx => s5 = .int .i64 n ∧ ∃ sb lv un bi, s6 = .pointer (some ⟨sb, 0, none⟩) ∧ Begun w wx w.heap.size sb lv un bi n)
  case first =>
    go_region
    all_goals (go_wp2_with fail)
    all_goals go_meet
    all_goals
      refine ⟨rfl, ?_⟩
      apply Begun.ex
      iterate 5
        refine (drew_heap _ _).trans ?_
        first
          | exact alloc_new' (by simp only [alloc_size])
          | (rw [alloc_old _ (by simp only [alloc_size]; omega)]; exact alloc_new' (by simp only [alloc_size]))
          | (rw [alloc_old _ (by simp only [alloc_size]; omega), alloc_old _ (by simp only [alloc_size]; omega)]; exact alloc_new' (by simp only [alloc_size]))
          | (rw [alloc_old _ (by simp only [alloc_size]; omega), alloc_old _ (by simp only [alloc_size]; omega), alloc_old _ (by simp only [alloc_size]; omega)]; exact alloc_new' (by simp only [alloc_size]))
          | (rw [alloc_old _ (by simp only [alloc_size]; omega), alloc_old _ (by simp only [alloc_size]; omega), alloc_old _ (by simp only [alloc_size]; omega), alloc_old _ (by simp only [alloc_size]; omega)]; exact alloc_new' rfl)
      · exact ((((((Below.refl _ _).alloc (Nat.le_refl _) _).alloc (by simp only [alloc_size]; omega) _).alloc (by simp only [alloc_size]; omega) _).alloc (by simp only [alloc_size]; omega) _).alloc (by simp only [alloc_size]; omega) _).drew
      · omega
  case rest =>
    obtain ⟨rfl, sb, lv, un, bi, rfl, hb⟩ := hcut
    have c0 : wc.cell? ⟨sb, 1, none⟩ = some (.slice (some ⟨lv, 0, none⟩) (n + 1) (n + 1)) := by rw [cell_of_block hb.loc]; rfl
    have c1 : wc.cell? ⟨sb, 0, none⟩ = some .nilIface := by rw [cell_of_block hb.loc]; rfl
    have f1 := free_of_block hb.loc 0
    have c2 : wc.cell? ⟨lv, 0, none⟩ = some (.pointer none) := hb.lvs.cell (by omega)
    have f2 := hb.lvs.frozen 0
    have c3 : wc.cell? ⟨vb, 0, none⟩ = some (.int .i64 (val 0)) := by rw [hb.below.cell (p := ⟨vb, 0, none⟩) lvb]; exact HV.out.cell (by omega)
    have l1 : sb < wc.heap.size := lt_of_heap hb.loc
    have l2 : lv < wc.heap.size := hb.lvs.lt
    have l3 : vb < wc.heap.size := by have := hb.below.size; omega
    have ne1 : lv ≠ sb := row_ne_block hb.lvs hb.loc (by decide)
    have HB := Lib.hid hb
    clear hb mk1 mk2 mk3
    go_wp2_with fail
    go_region
    all_goals (go_wp2_with fail)
    go_loopw [7] (fun i wr => ∃ (k : Nat) (nb lb : Nat → Nat), k ≤ n ∧ i = .int .i64 k ∧ Built (fun i => (z i % 7).toNat) nb lb val w wr w.heap.size sb lv un bi n k) (fun i _ => n - (intOf i).toNat)
    case atStart => exact ⟨0, _, _, Nat.zero_le _, rfl, (HB.out.start _ val).drew⟩
    case round =>
      clear c0 c1 c2 c3 f1 f2 l1 l2 l3
      obtain ⟨k, nb, lb, hk, rfl, hl⟩ := hrel
      have ha := hl.lt_all
      have hnes := hl.nes
      obtain ⟨l0, l1, l2, l3, l4⟩ := ha
      obtain ⟨n1, n2, n3, n4, n5, n6, n7, n8, n9⟩ := hnes
      obtain ⟨T, p, hT⟩ := nodeV_iface (fun i => (z i % 7).toNat) nb lb k
      have c0 : wr.cell? ⟨sb, 0, none⟩ = some (.iface T (.pointer (some ⟨p, 0, none⟩))) := by rw [cell_of_block hl.loc, hT]; rfl
      have c1 : wr.cell? ⟨sb, 1, none⟩ = some (.slice (some ⟨lv, 0, none⟩) (n + 1) (n + 1)) := by rw [cell_of_block hl.loc]; rfl
      have c2 : wr.cell? ⟨sb, 2, none⟩ = some (.slice (some ⟨un, 0, none⟩) n n) := by rw [cell_of_block hl.loc]; rfl
      have c3 : wr.cell? ⟨sb, 3, none⟩ = some (.slice (some ⟨bi, 0, none⟩) n n) := by rw [cell_of_block hl.loc]; rfl
      have fs := free_of_block hl.loc 0
      have HT := Lib.hid hT
      clear hT
      by_cases hlt : k < n
      · obtain ⟨cb, hao, hrow⟩ : ∃ cb, ao = some ⟨cb, 0, none⟩ ∧ w.rowIs cb 5 n (fun i => .int .u8 (z i)) := by
          rcases HC.out with ⟨_, h0⟩ | h
          · omega
          · exact h
        subst hao
        have hcb := hrow.lt
        have hsz := hl.below.size
        have cz : wr.cell? ⟨cb, k, none⟩ = some (.int .u8 (z k)) := by rw [hl.below.cell (p := ⟨cb, k, none⟩) hcb]; exact hrow.cell hlt
        have cval : wr.cell? ⟨vb, (k + 1), none⟩ = some (.int .i64 (val (k + 1))) := by rw [hl.below.cell (p := ⟨vb, (k + 1), none⟩) lvb]; exact HV.out.cell (by omega)
        have hzk := HZ.out k hlt
        have cu : wr.cell? ⟨un, k, none⟩ = some (.pointer none) := by rw [hl.uns.cell hlt]; simp [unF]
        have fu := hl.uns.frozen k
        have cbi : wr.cell? ⟨bi, k, none⟩ = some (.pointer none) := by rw [hl.bis.cell hlt]; simp [biF]
        have fbi := hl.bis.frozen k
        have clv : wr.cell? ⟨lv, (k + 1), none⟩ = some (.pointer none) := by rw [hl.lvs.cell (by omega)]; exact congrArg some (if_neg (fun q => by omega))
        have flv := hl.lvs.frozen (k + 1)
        have l5 : cb < wr.heap.size := by omega
        have l6 : vb < wr.heap.size := by omega
        have HL := Lib.hid hl
        have HR := Lib.hid hrow
        clear hl hrow hsz
        go_wp2_with fail
        · rename_i hz0
          have h0 : (z k % 7).toNat = 0 := by have := eq_of_beq hz0; omega
          have HB2 := Lib.hid (HL.out.una h0)
          rw [HT.out] at HB2
          clear hz0
          go_roundw
          case rel => exact ⟨k + 1, _, _, by omega, by go_num, HB2.out⟩
          case measure => simp [intOf]; omega
        · rename_i hz0 _ _
          have h0 : (z k % 7).toNat ≠ 0 := by have := ne_of_beq_false hz0; omega
          have HB2 := Lib.hid (HL.out.bin h0)
          rw [HT.out] at HB2
          have l7 : sb < wr.heap.size + 1 := by omega
          have l8 : bi < wr.heap.size + 1 := by omega
          have l9 : sb < wr.heap.size + 1 + 1 := by omega
          have l10 : bi < wr.heap.size + 1 + 1 := by omega
          have e1 : 1 ≤ z k % 7 := by omega
          have e2 : z k % 7 ≤ 6 := by omega
          have E1 := Lib.hid e1
          have E2 := Lib.hid e2
          clear h0 e1 e2
          go_region_with (go_at_call 15; refine (opName_at _ E1.out E2.out _).mono ?_; rintro e w' ⟨rfl, rfl⟩)
          all_goals
            go_wp2_with fail
            go_roundw
            case rel => exact ⟨k + 1, _, _, by omega, by go_num, HB2.out.drew⟩
            case measure => simp [intOf]; omega
      · obtain rfl : k = n := by omega
        have r0 : wr.cell? ⟨w.heap.size, 0, none⟩ = some .nilIface := by rw [cell_of_block hl.res]; rfl
        have r1 : wr.cell? ⟨w.heap.size, 1, none⟩ = some (.slice none 0 0) := by rw [cell_of_block hl.res]; rfl
        have r2 : wr.cell? ⟨w.heap.size, 2, none⟩ = some (.slice none 0 0) := by rw [cell_of_block hl.res]; rfl
        have r3 : wr.cell? ⟨w.heap.size, 3, none⟩ = some (.slice none 0 0) := by rw [cell_of_block hl.res]; rfl
        have g0 := free_of_block hl.res 0
        have g1 := free_of_block hl.res 1
        have g2 := free_of_block hl.res 2
        have g3 := free_of_block hl.res 3
        have HL := Lib.hid hl
        clear hl
        go_wp2_with fail
        refine bodyPost_ret (v := .agg #[.iface T (.pointer (some ⟨p, 0, none⟩)), (.slice (some ⟨lv, 0, none⟩) (k + 1) (k + 1)), (.slice (some ⟨un, 0, none⟩) k k), (.slice (some ⟨bi, 0, none⟩) k k)]) (by simp [results, Tryz.results8, go_sem, r0, r1, r2, r3]) rfl ?_
        exact ⟨nb, lb, lv, un, bi, T, p, rfl, HT.out, HL.out.tree (Nat.le_refl _) (((((Wr.refl _ _).set (by simp) _).set (by simp) _).set (by simp) _).set (by simp) _)⟩
end Go.Proofs.YtpjbeenakkfcfaaGreat

/- Flatten: one level over whatever level. -/
import Derived.Test.YtgnilcmhaobgeaaGreatFlaB
import Derived.Test.YtgnilcmhaobgeaaGreatFlaD
import Derived.Deep.QuietTactic
import Derived.BigQuiet
namespace Go.Proofs.YtgnilcmhaobgeaaGreat
open Go.RowKit Go.Deep

theorem infoAny : ∃ i, Tryz.prog.info? 20 = some i ∧ i.zero = some .nilIface ∧ i.size = 1 ∧ i.bytes = 16 := by
  have h : (Tryz.prog.info? 20).map (fun i => (i.zero, i.size, i.bytes)) = some (some .nilIface, 1, 16) := by kernel_rfl
  obtain ⟨i, hi, hz⟩ := Option.map_eq_some_iff.1 h
  simp only [Prod.mk.injEq] at hz
  exact ⟨i, hi, hz.1, hz.2.1, hz.2.2⟩

def KindAt (E : TypeId) (G k : Int) : Prop := ∀ (a : Addr) (w : World), (callFunc 18 #[RV E a G]).run Tryz.prog w = .ok (.value (.int .u64 k)) w
def DerefAt (E : TypeId) (G : Int) : Prop := ∀ (a : Addr) (w : World), Calls Tryz.prog 16 #[RV E a G] w fun e w' => e = .returned (RV E a G) ∧ Below w.heap.size w w'

set_option maxRecDepth 100000 in
set_option maxHeartbeats 1000000 in
theorem deref_any (E : TypeId) (G k : Int) (h1 : (k == 22) = false) (h2 : (k == 20) = false) (hk : KindAt E G k) : DerefAt E G := by
  intro a w
  unfold KindAt at hk
  go_enter Tryz.func16, Tryz.ntmps16
  go_wp2_with fail
  go_loopw [3] (fun _ wr => wr = (w.alloc (.cells #[.pointer (some ⟨0, E, none⟩), .pointer (some a), .int .u64 G] 52)).alloc (.cells #[.pointer none, .pointer none, .int .u64 0] 52)) (fun _ _ => 0)
  case atStart => exact rfl
  case round =>
    obtain rfl := hrel
    go_wp2_with fail
    refine bodyPost_ret (v := RV E a G) (by simp [results, Tryz.results16, go_sem]) rfl ⟨rfl, ?_⟩
    exact ((Below.refl _ _).alloc (Nat.le_refl _) _).alloc (by simp only [alloc_size]; omega) _
theorem deref_0 : DerefAt 3 386 := deref_any _ _ 2 (by decide) (by decide) kind_0
theorem deref_1 : DerefAt 38 407 := deref_any _ _ 23 (by decide) (by decide) kind_1
theorem deref_2 : DerefAt 36 407 := deref_any _ _ 23 (by decide) (by decide) kind_2

set_option maxRecDepth 100000 in
set_option maxHeartbeats 1000000 in
theorem flat_deep (T : TypeId) (a : Addr) (F d : Int) (hd : 10000 < d) (w : World) : Calls Tryz.prog 12 #[RV T a F, .int .i64 d] w (ErrPost w) := by
  go_enter Tryz.func12, Tryz.ntmps12
  go_wp2_with fail
  go_ret2
  exact ⟨_, _, rfl, (Below.refl _ _).alloc (Nat.le_refl _) _⟩

/-- the contract of the level below, at depth d -/
def SubAt {α : Type} (E : TypeId) (G d : Int) (P : World → Value → α → Prop) (sub : α → List Int) : Prop :=
  ∀ (w : World) (p : Addr) (u : Value) (x : α), w.cell? p = some u → P w u x → (sub x).length ≤ 65536 → Calls Tryz.prog 12 #[RV E p G, .int .i64 d] w (FlatPost w (sub x))
def LenAt (T : TypeId) (F : Int) : Prop := ∀ (a : Addr) (b : Option Addr) (n c : Nat) (w : World), w.cell? a = some (.slice b n c) → (callFunc 15 #[RV T a F]).run Tryz.prog w = .ok (.value (.int .i64 n)) w
def IdxAt (T : TypeId) (F : Int) (E : TypeId) (G : Int) : Prop := ∀ (a : Addr) (b off n c i : Nat) (w : World), w.cell? a = some (.slice (some ⟨b, off, none⟩) n c) → i < n → (callFunc 17 #[RV T a F, .int .i64 i]).run Tryz.prog w = .ok (.value (RV E ⟨b, off + i, none⟩ G)) w
theorem neqNil (w : World) : (binOp .neq 25 .nilIface .nilIface).run Tryz.prog w = .ok (.bool false) w := by kernel_rfl
/-- the box that a parameter of type reflect.Value gets -/
abbrev boxV (T : TypeId) (a : Addr) (F : Int) : Obj := .cells #[.pointer (some ⟨0, T, none⟩), .pointer (some a), .int .u64 F] 52

set_option maxRecDepth 100000 in
set_option maxHeartbeats 4000000 in
theorem flatS {α : Type} (T E : TypeId) (F d : Int) (P : World → Value → α → Prop) (sub : α → List Int) (hP : Stable P) (hLen : LenAt T F) (hIdx : IdxAt T F E 407) (hKind : KindAt E 407 23) (hDer : DerefAt E 407)
    (M : List α) (hSub : M ≠ [] → SubAt E 407 (d + 1) P sub) (hd1 : -9223372036854775808 ≤ d) (hd2 : d ≤ 10000) (hM : (M.map sub).flatten.length ≤ 65536) (w : World) (a : Addr) (v : Value) (ha : w.cell? a = some v) (hv : InS P w v M) :
    Calls Tryz.prog 12 #[RV T a F, .int .i64 d] w (FlatPost w (M.map sub).flatten) := by
  obtain ⟨i0, hi, hz0, hz1, hz2⟩ := infoAny
  obtain ⟨b, c, rfl⟩ := hv.shape
  have hlen := hv.len.2
  unfold maxLen at hlen
  unfold KindAt at hKind
  have nE := neqNil
  have HV := Lib.hid hv
  have HL := Lib.hid hLen
  have HX := Lib.hid hIdx
  have HS := Lib.hid hSub
  have HP := Lib.hid hP
  have HM := Lib.hid hM
  have HA := Lib.hid ha
  have HD := Lib.hid hDer
  clear hv hLen hIdx hSub hP hM ha hDer
  go_enter Tryz.func12, Tryz.ntmps12
  go_wp2_with fail
  go_loopw [6, 7] (fun r i wr => ∃ k : Nat, k ≤ M.length ∧ i = .int .i64 k ∧ Got (w.heap.size + 1) wr r (cat sub M k) ∧ Below (w.heap.size + 1) (w.alloc (boxV T a F)) wr) (fun _ i _ => M.length - (intOf i).toNat)
  case atStart => exact ⟨0, Nat.zero_le _, rfl, by rw [cat_zero]; exact Got.start' (by rw [alloc_size]) (by rw [alloc_size]; omega), (Below.refl _ _).alloc (by rw [alloc_size]; omega) _⟩
  case round =>
    obtain ⟨k, hk, rfl, hg, hb⟩ := hrel
    have hbw : Below w.heap.size w wr := ((Below.refl _ w).alloc (Nat.le_refl _) _).trans (hb.mono (by omega))
    have hbox : wr.heap[w.heap.size]? = some (boxV T a F) := by rw [hb.block _ (by omega)]; exact alloc_new _ _
    have x0 : wr.cell? ⟨w.heap.size, 0, none⟩ = some (.pointer (some ⟨0, T, none⟩)) := by rw [cell_of_block hbox]; rfl
    have x1 : wr.cell? ⟨w.heap.size, 1, none⟩ = some (.pointer (some a)) := by rw [cell_of_block hbox]; rfl
    have x2 : wr.cell? ⟨w.heap.size, 2, none⟩ = some (.int .u64 F) := by rw [cell_of_block hbox]; rfl
    have hsz : w.heap.size + 1 ≤ wr.heap.size := by have := hb.size; rw [alloc_size] at this; exact this
    have har : wr.cell? a = some (.slice b M.length c) := by rw [hbw.cell (lt_of_cell HA.out)]; exact HA.out
    have e1 := HL.out a b M.length c wr har
    obtain ⟨g, cc, rfl⟩ := hg.shape
    by_cases hlt : k < M.length
    · obtain ⟨bb, off, u, x, hbb, hx, hc0, hu⟩ := HV.out.at hlt
      subst hbb
      have e2 := HX.out a bb off M.length c k wr har hlt
      have hc : wr.cell? ⟨bb, off + k, none⟩ = some u := by rw [hbw.cell (p := ⟨bb, off + k, none⟩) (lt_of_cell hc0)]; exact hc0
      have hur := HP.out _ _ _ _ hu hbw
      have hcat := cat_le sub hx
      have hsx : (sub x).length ≤ 65536 := by have := HM.out; omega
      have hcl : (cat sub M k).length + (sub x).length ≤ 65536 := by have := HM.out; omega
      have HC := Lib.hid hc
      have HU := Lib.hid hur
      have HG := Lib.hid hg
      have HB := Lib.hid hb
      have HXX := Lib.hid hx
      have HSZ := Lib.hid hsz
      clear hg hb hu hur hc hc0 hx hcat har hbw hbox hsz
      go_wp2_with fail
      refine (HD.out _ _).mono ?_
      rintro e w6 ⟨rfl, hb6⟩
      have hba := (((Below.refl _ wr).trans hb6).alloc hb6.size (boxV E ⟨bb, off + k, none⟩ 407))
      have HF := Lib.hid (HS.out (fun e => by subst e; simp at hlt) (w6.alloc (boxV E ⟨bb, off + k, none⟩ 407)) ⟨bb, off + k, none⟩ u x (by rw [hba.cell (p := ⟨bb, off + k, none⟩) (lt_of_cell HC.out)]; exact HC.out) (HP.out _ _ _ _ HU.out hba) hsx)
      have HBA := Lib.hid hba
      clear hb6 hba
      go_wp2_with fail
      refine HF.out.mono ?_
      rintro e w7 ⟨v7, rfl, hb7, hg7⟩
      obtain ⟨g7, c7, rfl⟩ := hg7.shape
      have hbr := below_trans HBA.out hb7 (Nat.le_refl _)
      have hgr := HG.out.below hbr
      have HGR := Lib.hid hgr
      have HOWN := Lib.hid hgr.own
      have HBR := Lib.hid (HB.out.trans (hbr.mono HSZ.out))
      have HCE := Lib.hid hg7.cells.2.2.2
      have hs7 : w.heap.size + 1 ≤ w7.heap.size := by have := HSZ.out; have := hbr.size; omega
      have HS7 := Lib.hid hs7
      clear hb7 hg7 hbr hgr hs7 e1 e2 x0 x1 x2
      go_wp2_with (at_builtin; refine wpList_append_own _ rfl _ _ 47 rfl (w.heap.size + 1) 20 i0 .nilIface 1 16 Tryz.underlying47 hi hz0 hz1 hz2 rfl (by decide) _ _ _ rfl HOWN.out ⟨g7, 0, none⟩ (sub x).length c7 ((sub x).map anyInt) rfl (by simp) HCE.out (anyInt_one _) (by unfold maxLen; omega) (by omega) HS7.out ?_)
      intro v' w8 ho hg8 hn8
      have HG8 := Lib.hid (HGR.out.step (cat_succ HXX.out) ho (fun h => (hn8 h).elim))
      have HB8 := Lib.hid (HGR.out.grown HBR.out hg8 HS7.out)
      clear ho hg8 hn8
      go_wp2_with fail
      go_roundw
      case rel => exact ⟨k + 1, by omega, by go_num, HG8.out, HB8.out⟩
      case measure => simp [intOf]; omega
    · obtain rfl : k = M.length := by omega
      have HG := Lib.hid hg
      have HB := Lib.hid hbw
      clear hg hb hbw hbox har hsz
      go_wp2_with fail
      go_ret2
      refine ⟨_, rfl, HB.out, ?_⟩
      rw [← cat_all sub M (Nat.le_refl _)]
      exact HG.out.base (by omega)

set_option maxRecDepth 100000 in
set_option maxHeartbeats 4000000 in
theorem flatS_err {α : Type} (T E : TypeId) (F : Int) (P : World → Value → α → Prop) (hLen : LenAt T F) (hIdx : IdxAt T F E 407) (hKind : KindAt E 407 23) (hDer : DerefAt E 407)
    (M : List α) (hne : M ≠ []) (w : World) (a : Addr) (v : Value) (ha : w.cell? a = some v) (hv : InS P w v M) :
    Calls Tryz.prog 12 #[RV T a F, .int .i64 10000] w (ErrPost w) := by
  obtain ⟨b, c, rfl⟩ := hv.shape
  have hlen := hv.len.2
  unfold maxLen at hlen
  unfold KindAt at hKind
  have HV := Lib.hid hv
  have HL := Lib.hid hLen
  have HX := Lib.hid hIdx
  have HN := Lib.hid hne
  have HA := Lib.hid ha
  have HD := Lib.hid hDer
  clear hv hLen hIdx ha hDer hne
  go_enter Tryz.func12, Tryz.ntmps12
  go_wp2_with fail
  go_loopw [7] (fun i wr => i = .int .i64 0 ∧ Below (w.heap.size + 1) (w.alloc (boxV T a F)) wr) (fun _ _ => 0)
  case atStart => exact ⟨rfl, (Below.refl _ _).alloc (by rw [alloc_size]; omega) _⟩
  case round =>
    obtain ⟨rfl, hb⟩ := hrel
    have hbw : Below w.heap.size w wr := ((Below.refl _ w).alloc (Nat.le_refl _) _).trans (hb.mono (by omega))
    have hbox : wr.heap[w.heap.size]? = some (boxV T a F) := by rw [hb.block _ (by omega)]; exact alloc_new _ _
    have x0 : wr.cell? ⟨w.heap.size, 0, none⟩ = some (.pointer (some ⟨0, T, none⟩)) := by rw [cell_of_block hbox]; rfl
    have x1 : wr.cell? ⟨w.heap.size, 1, none⟩ = some (.pointer (some a)) := by rw [cell_of_block hbox]; rfl
    have x2 : wr.cell? ⟨w.heap.size, 2, none⟩ = some (.int .u64 F) := by rw [cell_of_block hbox]; rfl
    have har : wr.cell? a = some (.slice b M.length c) := by rw [hbw.cell (lt_of_cell HA.out)]; exact HA.out
    have e1 := HL.out a b M.length c wr har
    have hlt : 0 < M.length := List.length_pos_iff.2 HN.out
    obtain ⟨bb, off, u, x, hbb, hx, hc0, hu⟩ := HV.out.at hlt
    subst hbb
    have e2 : (callFunc 17 #[RV T a F, .int .i64 0]).run Tryz.prog wr = .ok (.value (RV E ⟨bb, off, none⟩ 407)) wr := HX.out a bb off M.length c 0 wr har hlt
    have HBW := Lib.hid hbw
    clear hb hu hc0 hx har hbw hbox
    go_wp2_with fail
    refine (HD.out _ _).mono ?_
    rintro e w6 ⟨rfl, hb6⟩
    have hba := (((Below.refl _ wr).trans hb6).alloc hb6.size (boxV E ⟨bb, off, none⟩ 407))
    have HBA := Lib.hid (below_trans HBW.out hba (Nat.le_refl _))
    clear hb6 hba
    go_wp2_with fail
    refine (flat_deep _ _ _ _ (by omega) _).mono ?_
    rintro e w7 ⟨T', s, rfl, hb7⟩
    have HB7 := Lib.hid (below_trans HBA.out hb7 (Nat.le_refl _))
    clear hb7 e1 e2 x0 x1 x2
    go_wp2_with fail
    go_ret2
    exact ⟨_, _, rfl, HB7.out⟩

set_option maxRecDepth 100000 in
set_option maxHeartbeats 4000000 in
theorem flatI (d : Int) (hd2 : d ≤ 10000) (M : List Int) (hM : M.length ≤ 65536) (w : World) (a : Addr) (v : Value) (ha : w.cell? a = some v) (hv : In1 w v M) :
    Calls Tryz.prog 12 #[RV 38 a 407, .int .i64 d] w (FlatPost w M) := by
  obtain ⟨i0, hi, hz0, hz1, hz2⟩ := infoAny
  obtain ⟨b, c, rfl⟩ := hv.shape
  have hlen := hv.len.2
  unfold maxLen at hlen
  have hKind := kind_0
  have HV := Lib.hid hv
  have HM := Lib.hid hM
  have HA := Lib.hid ha
  clear hv hM ha
  go_enter Tryz.func12, Tryz.ntmps12
  go_wp2_with fail
  go_loopw [6, 7] (fun r i wr => ∃ (k : Nat) (K : List Int), k ≤ M.length ∧ i = .int .i64 k ∧ K = M.take k ∧ Got (w.heap.size + 1) wr r K ∧ Below (w.heap.size + 1) (w.alloc (boxV 38 a 407)) wr) (fun _ i _ => M.length - (intOf i).toNat)
  case atStart => exact ⟨0, [], Nat.zero_le _, rfl, rfl, Got.start' (by rw [alloc_size]) (by rw [alloc_size]; omega), (Below.refl _ _).alloc (by rw [alloc_size]; omega) _⟩
  case round =>
    obtain ⟨k, K, hk, rfl, hK, hg, hb⟩ := hrel
    have HK := Lib.hid hK
    have hKl : K.length = k := by rw [hK, List.length_take]; omega
    clear hK
    have hbw : Below w.heap.size w wr := ((Below.refl _ w).alloc (Nat.le_refl _) _).trans (hb.mono (by omega))
    have hbox : wr.heap[w.heap.size]? = some (boxV 38 a 407) := by rw [hb.block _ (by omega)]; exact alloc_new _ _
    have x0 : wr.cell? ⟨w.heap.size, 0, none⟩ = some (.pointer (some ⟨0, 38, none⟩)) := by rw [cell_of_block hbox]; rfl
    have x1 : wr.cell? ⟨w.heap.size, 1, none⟩ = some (.pointer (some a)) := by rw [cell_of_block hbox]; rfl
    have x2 : wr.cell? ⟨w.heap.size, 2, none⟩ = some (.int .u64 407) := by rw [cell_of_block hbox]; rfl
    have hsz : w.heap.size + 1 ≤ wr.heap.size := by have := hb.size; rw [alloc_size] at this; exact this
    have har : wr.cell? a = some (.slice b M.length c) := by rw [hbw.cell (lt_of_cell HA.out)]; exact HA.out
    have e1 := len_1 a b M.length c wr har
    obtain ⟨g, cc, rfl⟩ := hg.shape
    by_cases hlt : k < M.length
    · obtain ⟨bb, off, u, x, hbb, hx, hc0, hu⟩ := HV.out.at hlt
      subst hbb
      have e2 := idx_1 a bb off M.length c k wr har hlt
      obtain rfl : u = .int .i64 x := hu
      have hc : wr.cell? ⟨bb, off + k, none⟩ = some (.int .i64 x) := by rw [hbw.cell (p := ⟨bb, off + k, none⟩) (lt_of_cell hc0)]; exact hc0
      have hcl : K.length + 1 ≤ 65536 := by have := HM.out; omega
      clear hKl
      have HC := Lib.hid hc
      have HG := Lib.hid hg
      have HB := Lib.hid hb
      have HXX := Lib.hid hx
      have HSZ := Lib.hid hsz
      clear hg hb hc hc0 hx har hbw hbox hsz
      go_wp2_with fail
      refine (deref_0 _ _).mono ?_
      rintro e w6 ⟨rfl, hb6⟩
      have e3 := intf_0 ⟨bb, off + k, none⟩ x (w6.alloc (boxV 3 ⟨bb, off + k, none⟩ 386)) (by rw [(hb6.alloc hb6.size (boxV 3 ⟨bb, off + k, none⟩ 386)).cell (p := ⟨bb, off + k, none⟩) (lt_of_cell HC.out)]; exact HC.out)
      have hba := (hb6.alloc hb6.size (boxV 3 ⟨bb, off + k, none⟩ 386)).alloc (by have := hb6.size; rw [alloc_size]; omega) (.cells #[anyInt x] 20)
      have hgr := HG.out.below hba
      have HGR := Lib.hid hgr
      have HOWN := Lib.hid hgr.own
      have HBR := Lib.hid (HB.out.trans (hba.mono HSZ.out))
      have hs7 : w.heap.size + 1 ≤ ((w6.alloc (boxV 3 ⟨bb, off + k, none⟩ 386)).alloc (.cells #[anyInt x] 20)).heap.size := by have := HSZ.out; have := hba.size; omega
      have HS7 := Lib.hid hs7
      have hce : ∀ (j : Nat) (u : Value), ([anyInt x] : List Value)[j]? = some u → ((w6.alloc (boxV 3 ⟨bb, off + k, none⟩ 386)).alloc (.cells #[anyInt x] 20)).cell? ((⟨w6.heap.size + 1, 0, none⟩ : Addr).add j) = some u := by
        intro j u hj
        match j, hj with
        | 0, hj =>
          simp at hj
          subst hj
          have e : (⟨w6.heap.size + 1, 0, none⟩ : Addr).add 0 = ⟨w6.heap.size + 1, 0, none⟩ := by simp [Addr.add]
          rw [e, cell_of_block (alloc_new' (by rw [alloc_size]))]
          rfl
      have HCE := Lib.hid hce
      clear hb6 hba hgr hs7 hce e1 e2 x0 x1 x2
      go_wp2_with (at_builtin; refine wpList_append_own _ rfl _ _ 47 rfl (w.heap.size + 1) 20 i0 .nilIface 1 16 Tryz.underlying47 hi hz0 hz1 hz2 rfl (by decide) _ _ _ rfl HOWN.out ⟨w6.heap.size + 1, 0, none⟩ 1 1 [anyInt x] rfl rfl HCE.out (anyInt_one [x]) (by unfold maxLen; omega) (by omega) HS7.out ?_)
      intro v' w8 ho hg8 hn8
      have HG8 := Lib.hid (HGR.out.step (L' := [x]) (K := M.take (k + 1)) (by rw [HK.out]; exact take_succ_of HXX.out) ho (fun h => (hn8 h).elim))
      have HB8 := Lib.hid (HGR.out.grown HBR.out hg8 HS7.out)
      clear ho hg8 hn8
      go_wp2_with fail
      go_roundw
      case rel => exact ⟨k + 1, _, by omega, by go_num, rfl, HG8.out, HB8.out⟩
      case measure => simp [intOf]; omega
    · obtain rfl : k = M.length := by omega
      have HG := Lib.hid hg
      have HB := Lib.hid hbw
      clear hg hb hbw hbox har hsz hKl
      go_wp2_with fail
      go_ret2
      refine ⟨_, rfl, HB.out, ?_⟩
      have hg := HG.out.base (B' := w.heap.size) (by omega)
      have e : K = M := by rw [HK.out, List.take_of_length_le (Nat.le_refl _)]
      subst e
      exact hg
end Go.Proofs.YtgnilcmhaobgeaaGreat

/- zzBuildCount: the tree that it lays, for every number of arguments up to 4096. -/
import Derived.Test.YtgpbhigjmkkofaaGreatTree
import Derived.WalkKit
import Derived.WalkSpells
import Derived.WalkLawsBesides
import Derived.Lib.Hide
namespace Go.Proofs.YtgpbhigjmkkofaaGreat
open Go.RowKit Go.Deep

theorem infoPInt : (Tryz.prog.info? 39).map (fun i => (i.zero, i.size, i.bytes)) = some (some (.pointer none), 1, 8) := by kernel_rfl
theorem infoNode : (Tryz.prog.info? 59).map (fun i => (i.zero, i.size, i.bytes)) = some (some .nilIface, 1, 16) := by kernel_rfl

/-- what the loop has laid after k rounds -/
def Laid (w wr : World) (n k : Nat) : Prop :=
  wr.heap.size = w.heap.size + 2 + k ∧ Below w.heap.size w wr ∧
  wr.rowIs w.heap.size 39 n (fun i => if i < k then ptr (w.heap.size + 2 + i) else .pointer none) ∧
  wr.rowIs (w.heap.size + 1) 59 n (fun i => if i < k then iInt (w.heap.size + 2 + i) else .nilIface) ∧
  ∀ i, i < k → IntAt wr (w.heap.size + 2 + i) i


theorem Laid.start (w : World) (n : Nat) : Laid w ((w.alloc (.cells (madeCells #[.pointer none] n) 39)).alloc (.cells (madeCells #[.nilIface] n) 59)) n 0 := by
  refine ⟨by rw [alloc_size, alloc_size], ((Below.refl _ _).alloc (Nat.le_refl _) _).alloc (by rw [alloc_size]; omega) _, ?_, ?_, fun i hi => by omega⟩
  · exact ((World.rowIs_made w (.pointer none) n _).alloc _).congr fun i _ => by simp
  · have h := World.rowIs_made (w.alloc (.cells (madeCells #[.pointer none] n) 39)) .nilIface n 59
    rw [alloc_size] at h
    exact h.congr fun i _ => by simp

theorem Laid.step {w wr : World} {n k : Nat} (h : Laid w wr n k) (_hk : k < n) :
    Laid w (((wr.setCell ⟨w.heap.size, k, none⟩ (ptr wr.heap.size)).setCell ⟨w.heap.size + 1, k, none⟩ (iInt wr.heap.size)).alloc (.cells (nd0 [.int .i64 k]) 52)) n (k + 1) := by
  obtain ⟨hs, hb, rp, rn, hi⟩ := h
  have e : wr.heap.size = w.heap.size + 2 + k := hs
  refine ⟨by rw [alloc_size, set_size, set_size, hs]; omega, ((hb.setCell (Nat.le_refl _) _).setCell (by simp) _).alloc (by rw [set_size, set_size]; omega) _, ?_, ?_, ?_⟩
  · refine (((rp.set k _).setOther (by simp) _).alloc _).congr fun i _ => ?_
    by_cases h1 : i = k
    · subst h1; simp [e]
    · by_cases h2 : i < k
      · rw [if_neg h1, if_pos h2, if_pos (by omega)]
      · rw [if_neg h1, if_neg h2, if_neg (by omega)]
  · refine (((rn.setOther (by simp) _).set k _).alloc _).congr fun i _ => ?_
    by_cases h1 : i = k
    · subst h1; simp [e]
    · by_cases h2 : i < k
      · rw [if_neg h1, if_pos h2, if_pos (by omega)]
      · rw [if_neg h1, if_neg h2, if_neg (by omega)]
  · intro i hik
    unfold IntAt
    have es : ((wr.setCell ⟨w.heap.size, k, none⟩ (ptr wr.heap.size)).setCell ⟨w.heap.size + 1, k, none⟩ (iInt wr.heap.size)).heap.size = wr.heap.size := by rw [set_size, set_size]
    by_cases h1 : i = k
    · subst h1; exact alloc_new' (by rw [es]; omega)
    · rw [alloc_old _ (by omega), set_other (by simp; omega), set_other (by simp; omega)]; exact hi i (by omega)

theorem Laid.args {w wr : World} {n : Nat} (h : Laid w wr n n) : Args wr w.heap.size (w.heap.size + 1) (w.heap.size + 2) n :=
  ⟨h.2.2.1.congr fun i hi => by simp [hi], h.2.2.2.1.congr fun i hi => by simp [hi], h.2.2.2.2⟩

/-- The tree 'L op R' as zzBuildCount lays it: pb the binary node, pl the left node, pr the right one. -/
structure Count (w w' : World) (lb rb : Bool) (name op : ByteArray) (n : Nat) (v : Int) (pb pl pr bn b0 ba : Nat) : Prop where
  below : Below w.heap.size w w'
  args : Args w' ba bn b0 n
  bin : w'.heap[pb]? = some (.cells (nd0 [.string op, if lb then iBuiltin pl else iId pl, if rb then iInt pr else .iface 55 (ptr pr)]) 66 (0, 0))
  left : if lb then w'.heap[pl]? = some (.cells (nd0 [.string name, row0 bn n, .bool false, .nilIface, .pointer none]) 84 (0, 0)) else IdAt w' pl name
  right : if rb then IntAt w' pr v else ∃ x, FloatAt w' pr x
  new : w.heap.size ≤ pb ∧ w.heap.size ≤ pl ∧ w.heap.size ≤ pr ∧ w.heap.size ≤ ba ∧ w.heap.size ≤ bn ∧ w.heap.size ≤ b0
  apart : pb ≠ pl ∧ pb ≠ pr ∧ pl ≠ pr ∧ pb ≠ ba ∧ pb ≠ bn ∧ b0 + n ≤ pb ∧ b0 + n ≤ pl

def Count.Post (w : World) (lb rb : Bool) (name op : ByteArray) (n : Nat) (v : Int) (e : Ending) (w' : World) : Prop :=
  ∃ pb pl pr bn b0 ba, e = .returned (.tuple #[ptr pb, if lb then ptr pl else .pointer none, row0 ba n]) ∧ Count w w' lb rb name op n v pb pl pr bn b0 ba

theorem Count.make {w wr : World} {n : Nat} (h : Laid w wr n n) (lb rb : Bool) (name op : ByteArray) (v : Int) (x : Value) :
    Count w (((wr.alloc (if lb then .cells (nd0 [.string name, row0 (w.heap.size + 1) n, .bool false, .nilIface, .pointer none]) 84 else .cells (nd0 [.string name]) 54)).alloc
      (if rb then .cells (nd0 [.int .i64 v]) 52 else .cells (nd0 [x]) 57)).alloc
      (.cells (nd0 [.string op, if lb then iBuiltin wr.heap.size else iId wr.heap.size, if rb then iInt (wr.heap.size + 1) else .iface 55 (ptr (wr.heap.size + 1))]) 66)) lb rb name op n v (wr.heap.size + 1 + 1) wr.heap.size (wr.heap.size + 1) (w.heap.size + 1) (w.heap.size + 2) w.heap.size := by
  have hs := h.1
  have hb := h.2.1
  have ha := h.args
  generalize hL : (if lb then Obj.cells (nd0 [.string name, row0 (w.heap.size + 1) n, .bool false, .nilIface, .pointer none]) 84 else .cells (nd0 [.string name]) 54) = L
  generalize hR : (if rb then Obj.cells (nd0 [.int .i64 v]) 52 else .cells (nd0 [x]) 57) = R
  generalize hB : (Obj.cells (nd0 [.string op, if lb then iBuiltin wr.heap.size else iId wr.heap.size, if rb then iInt (wr.heap.size + 1) else .iface 55 (ptr (wr.heap.size + 1))]) 66) = B
  have s1 : (wr.alloc L).heap.size = wr.heap.size + 1 := alloc_size _ _
  have s2 : ((wr.alloc L).alloc R).heap.size = wr.heap.size + 1 + 1 := by rw [alloc_size, s1]
  have h3 : (((wr.alloc L).alloc R).alloc B).heap[wr.heap.size + 1 + 1]? = some B := by rw [← s2]; exact alloc_new _ _
  have h2 : (((wr.alloc L).alloc R).alloc B).heap[wr.heap.size + 1]? = some R := by rw [alloc_old _ (by omega), ← s1]; exact alloc_new _ _
  have h1 : (((wr.alloc L).alloc R).alloc B).heap[wr.heap.size]? = some L := by rw [alloc_old _ (by omega), alloc_old _ (by omega)]; exact alloc_new _ _
  refine ⟨((hb.alloc (by omega) _).alloc (by omega) _).alloc (by omega) _, ?_, ?_, ?_, ?_, ?_, ?_⟩
  · exact ha.move fun k hk _ => by rw [alloc_old _ (by omega), alloc_old _ (by omega), alloc_old _ (by omega)]
  · rw [h3, ← hB]
  · cases lb
    · show _ = _; rw [h1, ← hL]; rfl
    · show _ = _; rw [h1, ← hL]; rfl
  · cases rb
    · exact ⟨x, by show _ = _; rw [h2, ← hR]; rfl⟩
    · show _ = _; rw [h2, ← hR]; rfl
  · omega
  · omega

set_option maxRecDepth 100000 in
set_option maxHeartbeats 1000000 in
theorem build_tt (n : Nat) (hn : n ≤ 4096) (name op : ByteArray) (v : Int) (w : World) :
    Calls Tryz.prog 14 #[.int .i64 0, .string name, .int .i64 n, .int .i64 0, .string op, .int .i64 v] w (Count.Post w true true name op n v) := by
  have mk1 := run_make_row' (P := Tryz.prog) 78 39 _ _ Tryz.underlying78 infoPInt rfl .i64 .i64 n (by omega) (by omega)
  have mk2 := run_make_row' (P := Tryz.prog) 62 59 _ _ Tryz.underlying62 infoNode rfl .i64 .i64 n (by omega) (by omega)
  go_enter Tryz.func14, Tryz.ntmps14
  go_wp2_with fail
  go_loopw [17] (fun i wr => ∃ k : Nat, k ≤ n ∧ i = .int .i64 k ∧ Laid w wr n k) (fun i _ => n - (intOf i).toNat)
  case atStart => exact ⟨0, Nat.zero_le _, rfl, Laid.start w n⟩
  case round =>
    obtain ⟨k, hk, rfl, hl⟩ := hrel
    by_cases hlt : k < n
    · have cp : wr.cell? ⟨w.heap.size, k, none⟩ = some (.pointer none) := by rw [hl.2.2.1.cell hlt]; simp
      have fp := hl.2.2.1.frozen k
      have cn : wr.cell? ⟨w.heap.size + 1, k, none⟩ = some .nilIface := by rw [hl.2.2.2.1.cell hlt]; simp
      have fn := hl.2.2.2.1.frozen k
      have l1 : w.heap.size < wr.heap.size := by have := hl.1; omega
      have l2 : w.heap.size + 1 < wr.heap.size := by have := hl.1; omega
      have HS := Lib.hid (hl.step hlt)
      have HL := Lib.hid hl
      clear hl
      go_wp2_with fail
      go_roundw
      case rel => exact ⟨k + 1, by omega, by go_num, HS.out⟩
      case measure => simp [intOf]; omega
    · obtain rfl : k = n := by omega
      have HL := Lib.hid hl
      clear hl mk1 mk2
      go_wp2_with fail
      go_ret3
      exact ⟨_, _, _, _, _, _, rfl, Count.make HL.out true true name op v (.float .f64 (floatOfInt .f64 v))⟩
set_option maxRecDepth 100000 in
set_option maxHeartbeats 1000000 in
theorem build_tf (n : Nat) (hn : n ≤ 4096) (name op : ByteArray) (v : Int) (w : World) :
    Calls Tryz.prog 14 #[.int .i64 0, .string name, .int .i64 n, .int .i64 1, .string op, .int .i64 v] w (Count.Post w true false name op n v) := by
  have mk1 := run_make_row' (P := Tryz.prog) 78 39 _ _ Tryz.underlying78 infoPInt rfl .i64 .i64 n (by omega) (by omega)
  have mk2 := run_make_row' (P := Tryz.prog) 62 59 _ _ Tryz.underlying62 infoNode rfl .i64 .i64 n (by omega) (by omega)
  go_enter Tryz.func14, Tryz.ntmps14
  go_wp2_with fail
  go_loopw [17] (fun i wr => ∃ k : Nat, k ≤ n ∧ i = .int .i64 k ∧ Laid w wr n k) (fun i _ => n - (intOf i).toNat)
  case atStart => exact ⟨0, Nat.zero_le _, rfl, Laid.start w n⟩
  case round =>
    obtain ⟨k, hk, rfl, hl⟩ := hrel
    by_cases hlt : k < n
    · have cp : wr.cell? ⟨w.heap.size, k, none⟩ = some (.pointer none) := by rw [hl.2.2.1.cell hlt]; simp
      have fp := hl.2.2.1.frozen k
      have cn : wr.cell? ⟨w.heap.size + 1, k, none⟩ = some .nilIface := by rw [hl.2.2.2.1.cell hlt]; simp
      have fn := hl.2.2.2.1.frozen k
      have l1 : w.heap.size < wr.heap.size := by have := hl.1; omega
      have l2 : w.heap.size + 1 < wr.heap.size := by have := hl.1; omega
      have HS := Lib.hid (hl.step hlt)
      have HL := Lib.hid hl
      clear hl
      go_wp2_with fail
      go_roundw
      case rel => exact ⟨k + 1, by omega, by go_num, HS.out⟩
      case measure => simp [intOf]; omega
    · obtain rfl : k = n := by omega
      have HL := Lib.hid hl
      clear hl mk1 mk2
      go_wp2_with fail
      go_ret3
      exact ⟨_, _, _, _, _, _, rfl, Count.make HL.out true false name op v (.float .f64 (floatOfInt .f64 v))⟩
set_option maxRecDepth 100000 in
set_option maxHeartbeats 1000000 in
theorem build_ft (n : Nat) (hn : n ≤ 4096) (name op : ByteArray) (v : Int) (w : World) :
    Calls Tryz.prog 14 #[.int .i64 1, .string name, .int .i64 n, .int .i64 0, .string op, .int .i64 v] w (Count.Post w false true name op n v) := by
  have mk1 := run_make_row' (P := Tryz.prog) 78 39 _ _ Tryz.underlying78 infoPInt rfl .i64 .i64 n (by omega) (by omega)
  have mk2 := run_make_row' (P := Tryz.prog) 62 59 _ _ Tryz.underlying62 infoNode rfl .i64 .i64 n (by omega) (by omega)
  go_enter Tryz.func14, Tryz.ntmps14
  go_wp2_with fail
  go_loopw [17] (fun i wr => ∃ k : Nat, k ≤ n ∧ i = .int .i64 k ∧ Laid w wr n k) (fun i _ => n - (intOf i).toNat)
  case atStart => exact ⟨0, Nat.zero_le _, rfl, Laid.start w n⟩
  case round =>
    obtain ⟨k, hk, rfl, hl⟩ := hrel
    by_cases hlt : k < n
    · have cp : wr.cell? ⟨w.heap.size, k, none⟩ = some (.pointer none) := by rw [hl.2.2.1.cell hlt]; simp
      have fp := hl.2.2.1.frozen k
      have cn : wr.cell? ⟨w.heap.size + 1, k, none⟩ = some .nilIface := by rw [hl.2.2.2.1.cell hlt]; simp
      have fn := hl.2.2.2.1.frozen k
      have l1 : w.heap.size < wr.heap.size := by have := hl.1; omega
      have l2 : w.heap.size + 1 < wr.heap.size := by have := hl.1; omega
      have HS := Lib.hid (hl.step hlt)
      have HL := Lib.hid hl
      clear hl
      go_wp2_with fail
      go_roundw
      case rel => exact ⟨k + 1, by omega, by go_num, HS.out⟩
      case measure => simp [intOf]; omega
    · obtain rfl : k = n := by omega
      have HL := Lib.hid hl
      clear hl mk1 mk2
      go_wp2_with fail
      go_ret3
      exact ⟨_, _, _, _, _, _, rfl, Count.make HL.out false true name op v (.float .f64 (floatOfInt .f64 v))⟩
set_option maxRecDepth 100000 in
set_option maxHeartbeats 1000000 in
theorem build_ff (n : Nat) (hn : n ≤ 4096) (name op : ByteArray) (v : Int) (w : World) :
    Calls Tryz.prog 14 #[.int .i64 1, .string name, .int .i64 n, .int .i64 1, .string op, .int .i64 v] w (Count.Post w false false name op n v) := by
  have mk1 := run_make_row' (P := Tryz.prog) 78 39 _ _ Tryz.underlying78 infoPInt rfl .i64 .i64 n (by omega) (by omega)
  have mk2 := run_make_row' (P := Tryz.prog) 62 59 _ _ Tryz.underlying62 infoNode rfl .i64 .i64 n (by omega) (by omega)
  go_enter Tryz.func14, Tryz.ntmps14
  go_wp2_with fail
  go_loopw [17] (fun i wr => ∃ k : Nat, k ≤ n ∧ i = .int .i64 k ∧ Laid w wr n k) (fun i _ => n - (intOf i).toNat)
  case atStart => exact ⟨0, Nat.zero_le _, rfl, Laid.start w n⟩
  case round =>
    obtain ⟨k, hk, rfl, hl⟩ := hrel
    by_cases hlt : k < n
    · have cp : wr.cell? ⟨w.heap.size, k, none⟩ = some (.pointer none) := by rw [hl.2.2.1.cell hlt]; simp
      have fp := hl.2.2.1.frozen k
      have cn : wr.cell? ⟨w.heap.size + 1, k, none⟩ = some .nilIface := by rw [hl.2.2.2.1.cell hlt]; simp
      have fn := hl.2.2.2.1.frozen k
      have l1 : w.heap.size < wr.heap.size := by have := hl.1; omega
      have l2 : w.heap.size + 1 < wr.heap.size := by have := hl.1; omega
      have HS := Lib.hid (hl.step hlt)
      have HL := Lib.hid hl
      clear hl
      go_wp2_with fail
      go_roundw
      case rel => exact ⟨k + 1, by omega, by go_num, HS.out⟩
      case measure => simp [intOf]; omega
    · obtain rfl : k = n := by omega
      have HL := Lib.hid hl
      clear hl mk1 mk2
      go_wp2_with fail
      go_ret3
      exact ⟨_, _, _, _, _, _, rfl, Count.make HL.out false false name op v (.float .f64 (floatOfInt .f64 v))⟩
end Go.Proofs.YtgpbhigjmkkofaaGreat

/- The argument lists of n003_53's laws: what zzIdents, zzAsNodes and zzOuter lay; for every length up to 65536. -/
import Derived.Test.YtglhhfeaopjinaaGreatTreeS
import Derived.WalkKit
import Derived.WalkSpells
import Derived.WalkLawsBesides
import Derived.Lib.Hide
namespace Go.Proofs.YtglhhfeaopjinaaGreat
open Go.RowKit Go.Deep

theorem infoPId : (Tryz.prog.info? 58).map (fun i => (i.zero, i.size, i.bytes)) = some (some (.pointer none), 1, 8) := by kernel_rfl
theorem infoNode : (Tryz.prog.info? 54).map (fun i => (i.zero, i.size, i.bytes)) = some (some .nilIface, 1, 16) := by kernel_rfl

/-- one more world: all that was there is as it was -/
def Keeps (w w' : World) : Prop := ∀ (k : Nat) (o : Obj), w.heap[k]? = some o → w'.heap[k]? = some o
theorem Keeps.refl (w : World) : Keeps w w := fun _ _ h => h
theorem Keeps.alloc (w : World) (o : Obj) : Keeps w (w.alloc o) := fun _ _ h => by rw [alloc_old _ (lt_of_heap h)]; exact h
theorem Keeps.trans {a b c : World} (h : Keeps a b) (k : Keeps b c) : Keeps a c := fun i o hi => k i o (h i o hi)
theorem Keeps.below {w w' : World} (h : Below w.heap.size w w') : Keeps w w' := fun _ _ hk => below_keep h hk
theorem Keeps.at {w w' : World} (h : Keeps w w') {k : Nat} (hk : k < w.heap.size) : w'.heap[k]? = w.heap[k]? := by
  rw [h k _ (Array.getElem?_eq_getElem hk), Array.getElem?_eq_getElem hk]
theorem Keeps.cell {w w' : World} (h : Keeps w w') {a : Addr} {v : Value} (hc : w.cell? a = some v) : w'.cell? a = some v := by
  rw [← hc]
  exact World.cell?_of_block (w := w) (h.at (lt_of_cell hc))

/-- n identifiers 'a' in the blocks b0, b0 + 1, ..; the array of their pointers in block ba -/
structure Ids (w : World) (ba b0 n : Nat) : Prop where
  ptrs : w.rowIs ba 58 n (fun i => ptr (b0 + i))
  ids : ∀ i, i < n → IdAt w (b0 + i) ⟨#[97]⟩
/-- the array of these nodes in block bn -/
def NodesAt (w : World) (bn b0 n : Nat) : Prop := w.rowIs bn 54 n (fun i => iId (b0 + i))
/-- the outer call's arguments: the builtin node pi, then identifiers -/
def outerF (pi f0 i : Nat) : Value := if i = 0 then iBuiltin pi else iId (f0 + i)
def OuterAt (w : World) (bo pi f0 m : Nat) : Prop := w.rowIs bo 54 m (outerF pi f0)

theorem Ids.move {w w' : World} {ba b0 n : Nat} (h : Ids w ba b0 n) (hk : Keeps w w') : Ids w' ba b0 n :=
  ⟨h.ptrs.of_block (hk.at h.ptrs.lt), fun i hi => hk _ _ (h.ids i hi)⟩
theorem NodesAt.move {w w' : World} {bn b0 n : Nat} (h : NodesAt w bn b0 n) (hk : Keeps w w') : NodesAt w' bn b0 n := World.rowIs.of_block h (hk.at (World.rowIs.lt h))
theorem OuterAt.move {w w' : World} {bo pi f0 m : Nat} (h : OuterAt w bo pi f0 m) (hk : Keeps w w') : OuterAt w' bo pi f0 m := World.rowIs.of_block h (hk.at (World.rowIs.lt h))
theorem IdAt.move {w w' : World} {b : Nat} {s : ByteArray} (h : IdAt w b s) (hk : Keeps w w') : IdAt w' b s := hk _ _ h

/-- what zzIdents' loop has laid after k rounds -/
structure LaidI (w wr : World) (n k : Nat) : Prop where
  size : wr.heap.size = w.heap.size + 1 + k
  below : Below w.heap.size w wr
  ptrs : wr.rowIs w.heap.size 58 n (fun i => if i < k then ptr (w.heap.size + 1 + i) else .pointer none)
  ids : ∀ i, i < k → IdAt wr (w.heap.size + 1 + i) ⟨#[97]⟩

theorem LaidI.start (w : World) (n : Nat) : LaidI w (w.alloc (.cells (madeCells #[.pointer none] n) 58)) n 0 :=
  ⟨by rw [alloc_size], (Below.refl _ _).alloc (Nat.le_refl _) _, (World.rowIs_made w (.pointer none) n _).congr fun i _ => by simp, fun i hi => by omega⟩

theorem LaidI.step {w wr : World} {n k : Nat} (h : LaidI w wr n k) :
    LaidI w ((wr.setCell ⟨w.heap.size, k, none⟩ (ptr wr.heap.size)).alloc (.cells (nd0 [.string ⟨#[97]⟩]) 60)) n (k + 1) := by
  obtain ⟨hs, hb, rp, hi⟩ := h
  have e : wr.heap.size = w.heap.size + 1 + k := hs
  refine ⟨by rw [alloc_size, set_size, hs]; omega, (hb.setCell (Nat.le_refl _) _).alloc (by rw [set_size]; omega) _, ?_, ?_⟩
  · refine ((rp.set k _).alloc _).congr fun i _ => ?_
    by_cases h1 : i = k
    · subst h1; simp [e]
    · by_cases h2 : i < k
      · rw [if_neg h1, if_pos h2, if_pos (by omega)]
      · rw [if_neg h1, if_neg h2, if_neg (by omega)]
  · intro i hik
    unfold IdAt
    by_cases h1 : i = k
    · subst h1; exact alloc_new' (by rw [set_size]; omega)
    · rw [alloc_old _ (by rw [set_size]; omega), set_other (by simp; omega)]; exact hi i (by omega)

theorem LaidI.ends {w wr : World} {n : Nat} (h : LaidI w wr n n) : Ids wr w.heap.size (w.heap.size + 1) n :=
  ⟨h.ptrs.congr fun i hi => by simp [hi], h.ids⟩

def IdentsPost (w : World) (n : Nat) (e : Ending) (w' : World) : Prop := ∃ ba b0, e = .returned (.slice (some ⟨ba, 0, none⟩) n n) ∧ Below w.heap.size w w' ∧ Ids w' ba b0 n

set_option maxRecDepth 100000 in
set_option maxHeartbeats 1000000 in
theorem idents_any (n : Nat) (hn : n ≤ 65536) (w : World) : Calls Tryz.prog 8 #[.int .i64 n] w (IdentsPost w n) := by
  have mk1 := run_make_row' (P := Tryz.prog) 37 58 _ _ Tryz.underlying37 infoPId rfl .i64 .i64 n (by omega) (by omega)
  go_enter Tryz.func8, Tryz.ntmps8
  go_wp2_with fail
  go_loopw [4] (fun i wr => ∃ k : Nat, k ≤ n ∧ i = .int .i64 k ∧ LaidI w wr n k) (fun i _ => n - (intOf i).toNat)
  case atStart => exact ⟨0, Nat.zero_le _, rfl, LaidI.start w n⟩
  case round =>
    obtain ⟨k, hk, rfl, hl⟩ := hrel
    by_cases hlt : k < n
    · have cp : wr.cell? ⟨w.heap.size, k, none⟩ = some (.pointer none) := by rw [hl.ptrs.cell hlt]; simp
      have fp := hl.ptrs.frozen k
      have l1 : w.heap.size < wr.heap.size := by have := hl.size; omega
      have HS := Lib.hid hl.step
      clear hl
      go_wp2_with fail
      go_roundw
      case rel => exact ⟨k + 1, by omega, by go_num, HS.out⟩
      case measure => simp [intOf]; omega
    · obtain rfl : k = n := by omega
      have HL := Lib.hid hl
      clear hl mk1
      go_wp2_with fail
      go_ret
      exact ⟨_, _, rfl, HL.out.below, HL.out.ends⟩

/-- what zzAsNodes' loop has laid after k rounds -/
structure LaidN (w wr : World) (b0 n k : Nat) : Prop where
  size : wr.heap.size = w.heap.size + 1
  below : Below w.heap.size w wr
  nodes : wr.rowIs w.heap.size 54 n (fun i => if i < k then iId (b0 + i) else .nilIface)

theorem LaidN.start (w : World) (b0 n : Nat) : LaidN w (w.alloc (.cells (madeCells #[.nilIface] n) 54)) b0 n 0 :=
  ⟨by rw [alloc_size], (Below.refl _ _).alloc (Nat.le_refl _) _, (World.rowIs_made w .nilIface n _).congr fun i _ => by simp⟩
theorem LaidN.step {w wr : World} {b0 n k : Nat} (h : LaidN w wr b0 n k) : LaidN w (wr.setCell ⟨w.heap.size, k, none⟩ (iId (b0 + k))) b0 n (k + 1) := by
  obtain ⟨hs, hb, rp⟩ := h
  refine ⟨by rw [set_size, hs], hb.setCell (Nat.le_refl _) _, ?_⟩
  refine (rp.set k _).congr fun i _ => ?_
  by_cases h1 : i = k
  · subst h1; simp
  · by_cases h2 : i < k
    · rw [if_neg h1, if_pos h2, if_pos (by omega)]
    · rw [if_neg h1, if_neg h2, if_neg (by omega)]
theorem LaidN.ends {w wr : World} {b0 n : Nat} (h : LaidN w wr b0 n n) : NodesAt wr w.heap.size b0 n := h.nodes.congr fun i hi => by simp [hi]

def AsNodesPost (w : World) (b0 n : Nat) (e : Ending) (w' : World) : Prop := ∃ bn, e = .returned (.slice (some ⟨bn, 0, none⟩) n n) ∧ Below w.heap.size w w' ∧ NodesAt w' bn b0 n

set_option maxRecDepth 100000 in
set_option maxHeartbeats 1000000 in
theorem asNodes_any (ba b0 n : Nat) (hn : n ≤ 65536) (w : World) (hi : Ids w ba b0 n) : Calls Tryz.prog 9 #[(.slice (some ⟨ba, 0, none⟩) n n)] w (AsNodesPost w b0 n) := by
  have mk1 := run_make_row' (P := Tryz.prog) 40 54 _ _ Tryz.underlying40 infoNode rfl .i64 .i64 n (by omega) (by omega)
  have HI := Lib.hid hi
  clear hi
  go_enter Tryz.func9, Tryz.ntmps9
  go_wp2_with fail
  go_loopw [4] (fun i wr => ∃ k : Nat, k ≤ n ∧ i = .int .i64 k ∧ LaidN w wr b0 n k) (fun i _ => n - (intOf i).toNat)
  case atStart => exact ⟨0, Nat.zero_le _, rfl, LaidN.start w b0 n⟩
  case round =>
    obtain ⟨k, hk, rfl, hl⟩ := hrel
    by_cases hlt : k < n
    · have cp : wr.cell? ⟨w.heap.size, k, none⟩ = some .nilIface := by rw [hl.nodes.cell hlt]; simp
      have fp := hl.nodes.frozen k
      have ci : wr.cell? ⟨ba, k, none⟩ = some (.pointer (some ⟨b0 + k, 0, none⟩)) := (Keeps.below hl.below).cell (HI.out.ptrs.cell hlt)
      have HS := Lib.hid hl.step
      clear hl
      go_wp2_with fail
      go_roundw
      case rel => exact ⟨k + 1, by omega, by go_num, HS.out⟩
      case measure => simp [intOf]; omega
    · obtain rfl : k = n := by omega
      have HL := Lib.hid hl
      clear hl mk1
      go_wp2_with fail
      go_ret
      exact ⟨_, rfl, HL.out.below, HL.out.ends⟩

/-- what zzOuter's loop has laid after k rounds -/
structure LaidO (w wr : World) (pi f0 n k : Nat) : Prop where
  size : wr.heap.size = w.heap.size + 1
  below : Below w.heap.size w wr
  nodes : wr.rowIs w.heap.size 54 n (fun i => if i < k then outerF pi f0 i else .nilIface)

theorem LaidO.start (w : World) (pi f0 n : Nat) : LaidO w (w.alloc (.cells (madeCells #[.nilIface] n) 54)) pi f0 n 0 :=
  ⟨by rw [alloc_size], (Below.refl _ _).alloc (Nat.le_refl _) _, (World.rowIs_made w .nilIface n _).congr fun i _ => by simp⟩
theorem LaidO.step {w wr : World} {pi f0 n k : Nat} (h : LaidO w wr pi f0 n k) {v : Value} (hv : v = outerF pi f0 k) : LaidO w (wr.setCell ⟨w.heap.size, k, none⟩ v) pi f0 n (k + 1) := by
  obtain ⟨hs, hb, rp⟩ := h
  subst hv
  refine ⟨by rw [set_size, hs], hb.setCell (Nat.le_refl _) _, ?_⟩
  refine (rp.set k _).congr fun i _ => ?_
  by_cases h1 : i = k
  · subst h1; simp
  · by_cases h2 : i < k
    · rw [if_neg h1, if_pos h2, if_pos (by omega)]
    · rw [if_neg h1, if_neg h2, if_neg (by omega)]
theorem LaidO.ends {w wr : World} {pi f0 n : Nat} (h : LaidO w wr pi f0 n n) : OuterAt wr w.heap.size pi f0 n := h.nodes.congr fun i hi => by simp [hi]

def OuterPost (w : World) (pi f0 n : Nat) (e : Ending) (w' : World) : Prop := ∃ bo, e = .returned (.slice (some ⟨bo, 0, none⟩) n n) ∧ Below w.heap.size w w' ∧ OuterAt w' bo pi f0 n

set_option maxRecDepth 100000 in
set_option maxHeartbeats 1000000 in
theorem outer_any (pi ba f0 n : Nat) (hn : n ≤ 65536) (w : World) (hi : Ids w ba f0 n) : Calls Tryz.prog 10 #[(.pointer (some ⟨pi, 0, none⟩)), (.slice (some ⟨ba, 0, none⟩) n n), .int .i64 n] w (OuterPost w pi f0 n) := by
  have mk1 := run_make_row' (P := Tryz.prog) 40 54 _ _ Tryz.underlying40 infoNode rfl .i64 .i64 n (by omega) (by omega)
  have HI := Lib.hid hi
  clear hi
  go_enter Tryz.func10, Tryz.ntmps10
  go_wp2_with fail
  go_loopw [8] (fun i wr => ∃ k : Nat, k ≤ n ∧ i = .int .i64 k ∧ LaidO w wr pi f0 n k) (fun i _ => n - (intOf i).toNat)
  case atStart => exact ⟨0, Nat.zero_le _, rfl, LaidO.start w pi f0 n⟩
  case round =>
    obtain ⟨k, hk, rfl, hl⟩ := hrel
    by_cases hlt : k < n
    · have cp : wr.cell? ⟨w.heap.size, k, none⟩ = some .nilIface := by rw [hl.nodes.cell hlt]; simp
      have fp := hl.nodes.frozen k
      have ci : wr.cell? ⟨ba, k, none⟩ = some (.pointer (some ⟨f0 + k, 0, none⟩)) := (Keeps.below hl.below).cell (HI.out.ptrs.cell hlt)
      have HL := Lib.hid hl
      clear hl
      by_cases hk0 : k = 0
      · subst hk0
        go_wp2_with fail
        go_roundw
        case rel => exact ⟨0 + 1, by omega, by go_num, HL.out.step (by simp [outerF])⟩
        case measure => simp [intOf]; omega
      · have h0 : ((k : Int) == 0) = false := by simp; omega
        go_wp2_with fail
        go_roundw
        case rel => exact ⟨k + 1, by omega, by go_num, HL.out.step (by simp [outerF, hk0])⟩
        case measure => simp [intOf]; omega
    · obtain rfl : k = n := by omega
      have HL := Lib.hid hl
      clear hl mk1
      go_wp2_with fail
      go_ret
      exact ⟨_, rfl, HL.out.below, HL.out.ends⟩
end Go.Proofs.YtglhhfeaopjinaaGreat

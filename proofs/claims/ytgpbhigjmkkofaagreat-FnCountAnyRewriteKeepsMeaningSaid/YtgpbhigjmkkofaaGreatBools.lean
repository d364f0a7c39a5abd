/- zzCloneBools, zzCountTrue, zzAnyTrue, zzCompare: what they compute. -/
import Derived.Test.YtgpbhigjmkkofaaGreatTree
import Derived.Test.YtgpbhigjmkkofaaGreatOpen
import Derived.WalkKit
import Derived.WalkSpells
import Derived.WalkLawsBesides
import Derived.Lib.Hide
namespace Go.Proofs.YtgpbhigjmkkofaaGreat
open Go.RowKit Go.Deep

/-- how many of the first k are true -/
def cnt (f : Nat → Bool) : Nat → Nat
  | 0 => 0
  | k + 1 => cnt f k + (if f k then 1 else 0)
theorem cnt_le (f : Nat → Bool) : ∀ k, cnt f k ≤ k
  | 0 => Nat.le_refl _
  | k + 1 => by have := cnt_le f k; simp only [cnt]; split <;> omega
theorem cnt_pos (f : Nat → Bool) : ∀ k, 0 < cnt f k ↔ ∃ i, i < k ∧ f i = true
  | 0 => by simp [cnt]
  | k + 1 => by
    have ih := cnt_pos f k
    simp only [cnt]
    constructor
    · intro h
      by_cases hk : f k = true
      · exact ⟨k, by omega, hk⟩
      · rw [if_neg hk] at h
        obtain ⟨i, hi, hf⟩ := ih.1 (by omega)
        exact ⟨i, by omega, hf⟩
    · rintro ⟨i, hi, hf⟩
      by_cases hk : i = k
      · subst hk; rw [if_pos hf]; omega
      · have := ih.2 ⟨i, by omega, hf⟩; omega

/-- the clone: nil, or a row of its own -/
def Clone (w' : World) (ao : Option Addr) (len : Nat) (f : Nat → Bool) : Prop :=
  (ao = none ∧ len = 0) ∨ ∃ b, ao = some ⟨b, 0, none⟩ ∧ w'.rowIs b 4 len (fun i => .bool (f i))
def ClonePost (w : World) (len : Nat) (f : Nat → Bool) (e : Ending) (w' : World) : Prop :=
  ∃ ao, e = .returned (.slice ao len len) ∧ Below w.heap.size w w' ∧ Clone w' ao len f

theorem infoBool : (Tryz.prog.info? 4).map (fun i => (i.zero, i.size, i.bytes)) = some (some (.bool false), 1, 1) := by kernel_rfl

set_option maxRecDepth 100000 in
set_option maxHeartbeats 1000000 in
theorem cloneBools (ao : Option Addr) (len cap : Nat) (f : Nat → Bool) (w : World) (hl : len ≤ 65536) (hr : IsRowOf (fun x => .bool x) (fun _ => True) w ao len cap f) :
    Calls Tryz.prog 13 #[.slice ao len cap] w (ClonePost w len f) := by
  have qT : ∀ (w : World) (a : Option Addr) (n c n' c' : Nat), (binOp .eql 74 (.slice a n c) (.slice none n' c')).run Tryz.prog w = .ok (.bool a.isNone) w := fun w a n c n' c' => Lib.run_eql_slice_nil w _ _ a n c n' c' Tryz.underlying74
  rcases hr with ⟨rfl, rfl, rfl⟩ | ⟨x, rfl, hlc, hcm, hx⟩
  · go_enter Tryz.func13, Tryz.ntmps13
    go_wp2_with fail
    go_ret
    exact ⟨none, rfl, Below.refl _ _, Or.inl ⟨rfl, rfl⟩⟩
  · have mk := run_make_row' (P := Tryz.prog) 74 4 _ _ Tryz.underlying74 infoBool rfl .i64 .i64 len (by omega) (by omega)
    have HX := Lib.hid hx
    clear hx
    go_enter Tryz.func13, Tryz.ntmps13
    go_wp2_with fail
    go_loopw [4] (fun i wr => ∃ k : Nat, k ≤ len ∧ i = .int .i64 k ∧ Below w.heap.size w wr ∧ wr.rowIs w.heap.size 4 len (fun i => if i < k then .bool (f i) else .bool false)) (fun i _ => len - (intOf i).toNat)
    case atStart => exact ⟨0, Nat.zero_le _, rfl, (Below.refl _ _).alloc (Nat.le_refl _) _, (World.rowIs_made w (.bool false) len _).congr fun i _ => by simp⟩
    case round =>
      obtain ⟨k, hk, rfl, hb, hrow⟩ := hrel
      by_cases hlt : k < len
      · obtain ⟨b, off, spot⟩ := x
        have hc0 := (HX.out k hlt).1
        have hspot : spot = none := by
          have h0 := (HX.out 0 (by omega)).1
          simpa [Addr.add] using World.cell?_spot h0
        subst hspot
        have hc : wr.cell? ⟨b, off + k, none⟩ = some (.bool (f k)) := by
          have e : (⟨b, off, none⟩ : Addr).add k = ⟨b, off + k, none⟩ := by unfold Addr.add; split <;> simp_all
          rw [e] at hc0
          rw [hb.cell (p := ⟨b, off + k, none⟩) (lt_of_cell hc0)]
          exact hc0
        have cr : wr.cell? ⟨w.heap.size, k, none⟩ = some (.bool false) := by rw [hrow.cell hlt]; simp
        have fr := hrow.frozen k
        have HB := Lib.hid hb
        have HR := Lib.hid hrow
        clear hb hrow mk hc0
        go_wp2_with fail
        go_roundw
        case rel =>
          refine ⟨k + 1, by omega, by go_num, HB.out.setCell (Nat.le_refl _) _, (HR.out.set k _).congr fun i _ => ?_⟩
          by_cases h1 : i = k
          · subst h1; simp
          · by_cases h2 : i < k
            · rw [if_neg h1, if_pos h2, if_pos (by omega)]
            · rw [if_neg h1, if_neg h2, if_neg (by omega)]
        case measure => simp [intOf]; omega
      · obtain rfl : k = len := by omega
        have HB := Lib.hid hb
        have HR := Lib.hid hrow
        clear hb hrow mk
        go_wp2_with fail
        go_ret
        exact ⟨_, rfl, HB.out, Or.inr ⟨_, rfl, HR.out.congr fun i hi => by simp [hi]⟩⟩

set_option maxRecDepth 100000 in
set_option maxHeartbeats 1000000 in
theorem countTrue (ao : Option Addr) (len : Nat) (f : Nat → Bool) (w : World) (hl : len ≤ 65536) (hr : Clone w ao len f) :
    Calls Tryz.prog 17 #[.slice ao len len] w fun e w' => e = .returned (.int .i64 (cnt f len)) ∧ w = w' := by
  have HR := Lib.hid hr
  clear hr
  go_enter Tryz.func17, Tryz.ntmps17
  go_wp2_with fail
  go_loop [3, 4] (fun n i => ∃ k : Nat, k ≤ len ∧ i = .int .i64 k ∧ n = .int .i64 (cnt f k)) (fun _ i => len - (intOf i).toNat)
  case atStart => exact ⟨0, Nat.zero_le _, rfl, rfl⟩
  case round =>
    obtain ⟨k, hk, rfl, rfl⟩ := hrel
    by_cases hlt : k < len
    · rcases HR.out with ⟨_, h0⟩ | ⟨b, rfl, hrow⟩
      · omega
      · have hc := hrow.cell hlt
        have hle := cnt_le f k
        have HS : Hid (cnt f (k + 1) = cnt f k + (if f k then 1 else 0)) := Lib.hid (rfl : cnt f (k + 1) = _)
        have HH := Lib.hid hrow
        clear hrow
        cases hfk : f k
        · rw [hfk] at hc
          have HF := Lib.hid hfk
          clear hfk
          go_wp2_with fail
          go_round
          case rel => exact ⟨k + 1, by omega, by go_num, by rw [HS.out, HF.out]; rfl⟩
          case measure => simp [intOf]; omega
        · rw [hfk] at hc
          have HF := Lib.hid hfk
          clear hfk
          go_wp2_with fail
          go_round
          case rel => exact ⟨k + 1, by omega, by go_num, by rw [HS.out, HF.out]; go_num⟩
          case measure => simp [intOf]; omega
    · obtain rfl : k = len := by omega
      go_wp2_with fail
      go_ret
      exact ⟨rfl, rfl⟩

/-- is one of the first k true? -/
def anyB (f : Nat → Bool) (k : Nat) : Bool := decide (0 < cnt f k)

set_option maxRecDepth 100000 in
set_option maxHeartbeats 1000000 in
theorem anyTrue (ao : Option Addr) (len : Nat) (f : Nat → Bool) (w : World) (hl : len ≤ 65536) (hr : Clone w ao len f) :
    Calls Tryz.prog 18 #[.slice ao len len] w fun e w' => e = .returned (.bool (anyB f len)) ∧ w = w' := by
  have HR := Lib.hid hr
  clear hr
  go_enter Tryz.func18, Tryz.ntmps18
  go_wp2_with fail
  go_loop [3] (fun i => ∃ k : Nat, k ≤ len ∧ i = .int .i64 k ∧ cnt f k = 0) (fun i => len - (intOf i).toNat)
  case atStart => exact ⟨0, Nat.zero_le _, rfl, rfl⟩
  case round =>
    obtain ⟨k, hk, rfl, hz⟩ := hrel
    have HZ := Lib.hid hz
    clear hz
    by_cases hlt : k < len
    · rcases HR.out with ⟨_, h0⟩ | ⟨b, rfl, hrow⟩
      · omega
      · have hc := hrow.cell hlt
        have HH := Lib.hid hrow
        clear hrow
        cases hfk : f k
        · rw [hfk] at hc
          have HF := Lib.hid hfk
          clear hfk
          go_wp2_with fail
          go_round
          case rel => exact ⟨k + 1, by omega, by go_num, by simp [cnt, HZ.out, HF.out]⟩
          case measure => simp [intOf]; omega
        · rw [hfk] at hc
          have HF := Lib.hid hfk
          clear hfk
          go_wp2_with fail
          go_ret
          refine ⟨?_, rfl⟩
          have : anyB f len = true := by unfold anyB; rw [decide_eq_true_eq, cnt_pos]; exact ⟨k, hlt, HF.out⟩
          rw [this]; rfl
    · obtain rfl : k = len := by omega
      go_wp2_with fail
      go_ret
      refine ⟨?_, rfl⟩
      have : anyB f k = false := by unfold anyB; rw [HZ.out]; rfl
      rw [this]; rfl

set_option maxRecDepth 100000 in
set_option maxHeartbeats 1000000 in
theorem compare_gt (c : Nat) (op : ByteArray) (w : World) (ho : op.toList = [62]) :
    Calls Tryz.prog 16 #[.int .i64 c, .string op, .int .i64 0] w fun e w' => e = .returned (.bool (decide (0 < c))) ∧ w = w' := by
  have h1 : (op.toList == [62]) = true := by rw [ho]; rfl
  clear ho
  go_enter Tryz.func16, Tryz.ntmps16
  go_wp2_with fail
  go_ret
  exact ⟨by simp, rfl⟩

set_option maxRecDepth 100000 in
set_option maxHeartbeats 1000000 in
theorem compare_ge (c : Nat) (op : ByteArray) (w : World) (ho : op.toList = [62, 61]) :
    Calls Tryz.prog 16 #[.int .i64 c, .string op, .int .i64 1] w fun e w' => e = .returned (.bool (decide (0 < c))) ∧ w = w' := by
  have h1 : (op.toList == [62, 61]) = true := by rw [ho]; rfl
  have h2 : (op.toList == [62]) = false := by rw [ho]; rfl
  clear ho
  go_enter Tryz.func16, Tryz.ntmps16
  go_wp2_with fail
  go_ret
  exact ⟨by simp; omega, rfl⟩
end Go.Proofs.YtgpbhigjmkkofaaGreat

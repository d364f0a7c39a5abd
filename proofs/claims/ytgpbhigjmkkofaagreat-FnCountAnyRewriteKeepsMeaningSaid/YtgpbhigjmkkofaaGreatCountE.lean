/- FnCountAnyRewriteKeepsMeaning: the walk: true at every input. -/
import Derived.Test.YtgpbhigjmkkofaaGreatCountC
import Derived.Test.YtgpbhigjmkkofaaGreatBools
namespace Go.Proofs.YtgpbhigjmkkofaaGreat
open Go.RowKit Go.Deep

set_option maxRecDepth 100000 in
set_option maxHeartbeats 1000000 in
theorem bytes14 (v : Int) (op : ByteArray) (ao : Option Addr) (len cap : Nat) (w : World) (h1 : op.size ≤ 65536) (h2 : len ≤ 65536) :
    Calls Tryz.prog 12 #[.string op, .int .i64 v, .slice ao len cap] w fun e w' => e = .returned (.bool true) ∧ w = w' := by
  go_enter Tryz.func12, Tryz.ntmps12
  go_wp2_with fail
  go_ret
  exact ⟨rfl, rfl⟩

def SomeB (w : World) (e : Ending) (w' : World) : Prop := ∃ b : Bool, e = .returned (.bool b) ∧ w = w'

set_option maxRecDepth 100000 in
set_option maxHeartbeats 1000000 in
theorem bytes14_any (v : Int) (op : ByteArray) (ao : Option Addr) (len cap : Nat) (w : World) (h1 : op.size ≤ maxLen) (h2 : len ≤ maxLen) :
    Calls Tryz.prog 12 #[.string op, .int .i64 v, .slice ao len cap] w (SomeB w) := by
  unfold maxLen at h1 h2
  go_enter Tryz.func12, Tryz.ntmps12
  go_wp2_with fail
  all_goals (go_ret; exact ⟨_, rfl, rfl⟩)

/-- the name 'count' -/
def countName : ByteArray := ⟨#[99, 111, 117, 110, 116]⟩

set_option maxRecDepth 100000 in
set_option maxHeartbeats 4000000 in
theorem law4_in (op : ByteArray) (v : Int) (ao : Option Addr) (len cap : Nat) (f : Nat → Bool) (w : World) (h1 : op.size ≤ 65536) (h2 : len ≤ 65536) (hr : IsRowOf (fun x => .bool x) (fun _ => True) w ao len cap f) :
    Calls Tryz.prog 4 #[.string op, .int .i64 v, .slice ao len cap] w fun e w' => e = .returned (.bool true) ∧ Below w.heap.size w w' := by
  have HR := Lib.hid hr
  clear hr
  go_enter Tryz.func4, Tryz.ntmps4
  go_wp2_with fail
  refine (bytes14 _ _ _ _ _ _ h1 h2).mono ?_
  rintro e w' ⟨rfl, rfl⟩
  go_wp2_with fail
  refine (cloneBools ao len cap f w h2 HR.out).mono ?_
  rintro e w0 ⟨bo, rfl, hb0, hcl⟩
  have HB0 := Lib.hid hb0
  have HCL := Lib.hid hcl
  clear hb0 hcl
  go_wp2_with fail
  refine (build_tt 2 (by omega) countName op v w0).mono ?_
  rintro e w1 ⟨pb, pl, pr, bn, b0, ba, rfl, hc⟩
  have HC := Lib.hid hc
  clear hc
  go_wp2_with fail
  refine (zzVisit true true w1.heap.size pb pl pr bn b0 ba 2 countName op v w0 _ (HC.out.alloc _) (alloc_new _ _)).mono ?_
  rintro e w3 hv
  have hs0 := HB0.out.size
  have hs1 := HC.out.below.size
  have hb2 : Below w.heap.size w (w1.alloc (.cells #[(.iface 60 (.pointer (some ⟨pb, 0, none⟩)))] 59)) := (HB0.out.trans (HC.out.below.mono hs0)).alloc (by omega) _
  rcases hv with ⟨hno, rfl, hb3⟩ | ⟨hyes, rfl, q, hw3, hq, hroot, hbuilt⟩
  · have hroot := below_keep hb3 (alloc_new w1 (.cells #[(.iface 60 (.pointer (some ⟨pb, 0, none⟩)))] 59))
    have c0 : w3.cell? ⟨w1.heap.size, 0, none⟩ = some (.iface 60 (.pointer (some ⟨pb, 0, none⟩))) := by rw [cell_of_block hroot]; rfl
    have tNo := ta_miss Tryz.underlying77 zBui (show 60 ≠ 77 by decide) 59
    have HB := Lib.hid (hb2.trans (hb3.mono (by rw [alloc_size]; omega)))
    clear hno hb3 hroot hb2 hs0 hs1
    go_wp2_with fail
    go_ret
    exact ⟨rfl, HB.out⟩
  · have c0 : w3.cell? ⟨w1.heap.size, 0, none⟩ = some (.iface 77 (.pointer (some ⟨q, 0, none⟩))) := by rw [cell_of_block hroot]; rfl
    have c1 : w3.cell? ⟨q, 11, none⟩ = some anyText := by rw [cell_of_block hbuilt]; rfl
    unfold anyText at c1
    have tBui := ta_hit Tryz.underlying77 59
    have HB := Lib.hid (hb2.trans (hw3.below (by rw [alloc_size]; omega) (by simp; omega)))
    have HY := Lib.hid hyes.2.2
    have hcl3 : Clone w3 bo len f := by
      rcases HCL.out with h | ⟨b, rfl, hrow⟩
      · exact Or.inl h
      · have hlt := hrow.lt
        refine Or.inr ⟨b, rfl, hrow.of_block ?_⟩
        rw [hw3.block b (by rw [alloc_size]; omega) (by simp; omega), alloc_old _ (by omega), HC.out.below.block b hlt]
    have HCL3 := Lib.hid hcl3
    clear hyes hw3 hq hroot hbuilt hs0 hs1 hb2 hcl3
    have tail : (op.toList = [62] ∧ v = 0) ∨ (op.toList = [62, 61] ∧ v = 1) := HY.out.2.2
    rcases tail with ⟨ho, rfl⟩ | ⟨ho, rfl⟩
    · have HO := Lib.hid ho
      clear ho
      go_wp2_with (first
        | (go_at_call 17; refine (countTrue bo len f _ h2 HCL3.out).mono ?_; rintro e w' ⟨rfl, rfl⟩)
        | (go_at_call 16; refine (compare_gt _ op _ HO.out).mono ?_; rintro e w' ⟨rfl, rfl⟩)
        | (go_at_call 18; refine (anyTrue bo len f _ h2 HCL3.out).mono ?_; rintro e w' ⟨rfl, rfl⟩))
      go_ret
      exact ⟨by simp [anyB], HB.out⟩
    · have HO := Lib.hid ho
      clear ho
      go_wp2_with (first
        | (go_at_call 17; refine (countTrue bo len f _ h2 HCL3.out).mono ?_; rintro e w' ⟨rfl, rfl⟩)
        | (go_at_call 16; refine (compare_ge _ op _ HO.out).mono ?_; rintro e w' ⟨rfl, rfl⟩)
        | (go_at_call 18; refine (anyTrue bo len f _ h2 HCL3.out).mono ?_; rintro e w' ⟨rfl, rfl⟩))
      go_ret
      exact ⟨by simp [anyB], HB.out⟩

set_option maxRecDepth 100000 in
set_option maxHeartbeats 4000000 in
/-- THE WALK: at every input. -/
theorem law4 (op : ByteArray) (v : Int) (ao : Option Addr) (len cap : Nat) (f : Nat → Bool) (w : World) (h1 : op.size ≤ maxLen) (hr : IsRowOf (fun x => .bool x) (fun _ => True) w ao len cap f) :
    Calls Tryz.prog 4 #[.string op, .int .i64 v, .slice ao len cap] w fun e w' => e = .returned (.bool true) ∧ Below w.heap.size w w' := by
  by_cases hok : op.size ≤ 65536 ∧ len ≤ 65536
  · exact law4_in op v ao len cap f w hok.1 hok.2 hr
  · have h2 : len ≤ maxLen := by rcases hr with ⟨_, h, _⟩ | ⟨_, _, h, h', _⟩ <;> omega
    have m1 := h1
    have m2 := h2
    unfold maxLen at h1 h2
    have HN := Lib.hid hok
    clear hok hr
    go_enter Tryz.func4, Tryz.ntmps4
    go_wp2_with fail
    refine (bytes14_any _ _ _ _ _ _ m1 m2).mono ?_
    rintro e w' ⟨b, rfl, rfl⟩
    cases b
    · go_wp2_with fail
      go_ret
      exact ⟨rfl, Below.refl _ _⟩
    · go_wp2_with fail
      all_goals first
        | (go_ret; exact ⟨rfl, Below.refl _ _⟩)
        | (exfalso; refine HN.out ?_; refine ⟨by omega, by omega⟩)
end Go.Proofs.YtgpbhigjmkkofaaGreat

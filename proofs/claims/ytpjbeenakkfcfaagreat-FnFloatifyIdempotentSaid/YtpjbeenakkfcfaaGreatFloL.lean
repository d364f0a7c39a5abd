/- Floatify: slotAt and leafSlotRight. -/
import Derived.Test.YtpjbeenakkfcfaaGreatFloK
namespace Go.Proofs.YtpjbeenakkfcfaaGreat
open Go.RowKit Go.Deep

set_option maxRecDepth 100000 in
set_option maxHeartbeats 1000000 in
theorem slot_root (R L U : Value) (bi : Nat) (w : World) :
    Calls Tryz.prog 11 #[.agg #[R, L, U, (.slice (some ⟨bi, 0, none⟩) 0 0)], .int .i64 0] w fun e w' => e = .returned R ∧ Below w.heap.size w w' := by
  go_enter Tryz.func11, Tryz.ntmps11
  go_wp2_with fail
  go_ret
  exact ⟨rfl, (Below.refl _ _).alloc (Nat.le_refl _) _⟩
set_option maxRecDepth 100000 in
set_option maxHeartbeats 1000000 in
theorem slot_una (R L V : Value) (un bi n p : Nat) (hn : 0 < n) (hn2 : n ≤ 4096) (w : World) (c0 : w.cell? ⟨un, 0, none⟩ = some (ptr p)) (c1 : w.cell? ⟨p, 12, none⟩ = some V) :
    Calls Tryz.prog 11 #[.agg #[R, L, (.slice (some ⟨un, 0, none⟩) n n), (.slice (some ⟨bi, 0, none⟩) n n)], .int .i64 0] w fun e w' => e = .returned V ∧ Below w.heap.size w w' := by
  have lc0 := lt_of_cell c0
  have lc1 := lt_of_cell c1
  go_enter Tryz.func11, Tryz.ntmps11
  go_wp2_with fail
  go_ret
  exact ⟨rfl, (Below.refl _ _).alloc (Nat.le_refl _) _⟩
set_option maxRecDepth 100000 in
set_option maxHeartbeats 1000000 in
theorem slot_bin (R L V : Value) (un bi n p : Nat) (hn : 0 < n) (hn2 : n ≤ 4096) (w : World) (c0 : w.cell? ⟨un, 0, none⟩ = some (.pointer none)) (c2 : w.cell? ⟨bi, 0, none⟩ = some (ptr p)) (c1 : w.cell? ⟨p, 12, none⟩ = some V) :
    Calls Tryz.prog 11 #[.agg #[R, L, (.slice (some ⟨un, 0, none⟩) n n), (.slice (some ⟨bi, 0, none⟩) n n)], .int .i64 0] w fun e w' => e = .returned V ∧ Below w.heap.size w w' := by
  have lc0 := lt_of_cell c0
  have lc1 := lt_of_cell c1
  have lc2 := lt_of_cell c2
  go_enter Tryz.func11, Tryz.ntmps11
  go_wp2_with fail
  go_ret
  exact ⟨rfl, (Below.refl _ _).alloc (Nat.le_refl _) _⟩
set_option maxRecDepth 100000 in
set_option maxHeartbeats 1000000 in
theorem slot_none (R L U : Value) (bi n j : Nat) (hj : j < n) (hn2 : n ≤ 4096) (w : World) (c2 : w.cell? ⟨bi, j, none⟩ = some (.pointer none)) :
    Calls Tryz.prog 11 #[.agg #[R, L, U, (.slice (some ⟨bi, 0, none⟩) n n)], .int .i64 (j + 1 : Nat)] w fun e w' => e = .returned .nilIface ∧ Below w.heap.size w w' := by
  have lc2 := lt_of_cell c2
  go_enter Tryz.func11, Tryz.ntmps11
  go_wp2_with fail
  go_ret
  exact ⟨rfl, (Below.refl _ _).alloc (Nat.le_refl _) _⟩
set_option maxRecDepth 100000 in
set_option maxHeartbeats 1000000 in
theorem slot_right (R L U V : Value) (bi n j p : Nat) (hj : j < n) (hn2 : n ≤ 4096) (w : World) (c2 : w.cell? ⟨bi, j, none⟩ = some (ptr p)) (c1 : w.cell? ⟨p, 13, none⟩ = some V) :
    Calls Tryz.prog 11 #[.agg #[R, L, U, (.slice (some ⟨bi, 0, none⟩) n n)], .int .i64 (j + 1 : Nat)] w fun e w' => e = .returned V ∧ Below w.heap.size w w' := by
  have lc1 := lt_of_cell c1
  have lc2 := lt_of_cell c2
  go_enter Tryz.func11, Tryz.ntmps11
  go_wp2_with fail
  go_ret
  exact ⟨rfl, (Below.refl _ _).alloc (Nat.le_refl _) _⟩

set_option maxRecDepth 100000 in
set_option maxHeartbeats 1000000 in
theorem right_yes (q l : Nat) (v : Int) (w : World) (hq : FloatAt w q (floatOfInt .f64 v)) :
    Calls Tryz.prog 10 #[(.iface 56 (.pointer (some ⟨q, 0, none⟩))), ptr l, .int .i64 v, .bool true] w fun e w' => e = .returned (.bool true) ∧ Below w.heap.size w w' := by
  have c1 : w.cell? ⟨q, 11, none⟩ = some (.float .f64 (floatOfInt .f64 v)) := by rw [cell_of_block hq]; rfl
  have he := ofInt_self v
  clear hq
  go_enter Tryz.func10, Tryz.ntmps10
  go_wp2_with (first | (go_at_call 13; refine (asFloat_flo _ _).mono ?_; rintro e w' ⟨rfl, rfl⟩) | (go_at_call 14; refine (asInt_flo _ _).mono ?_; rintro e w' ⟨rfl, rfl⟩))
  go_ret
  exact ⟨rfl, Below.refl _ _⟩
set_option maxRecDepth 100000 in
set_option maxHeartbeats 1000000 in
theorem right_no (l : Nat) (v : Int) (w : World) (hl : IntAt w l v) :
    Calls Tryz.prog 10 #[(.iface 53 (.pointer (some ⟨l, 0, none⟩))), ptr l, .int .i64 v, .bool false] w fun e w' => e = .returned (.bool true) ∧ Below w.heap.size w w' := by
  have c1 : w.cell? ⟨l, 11, none⟩ = some (.int .i64 v) := by rw [cell_of_block hl]; rfl
  have he := eql_ptr_same Tryz.underlying53 sInt
  clear hl
  go_enter Tryz.func10, Tryz.ntmps10
  go_wp2_with (first | (go_at_call 13; refine (asFloat_int _ _).mono ?_; rintro e w' ⟨rfl, rfl⟩) | (go_at_call 14; refine (asInt_int _ _).mono ?_; rintro e w' ⟨rfl, rfl⟩))
  go_ret
  exact ⟨rfl, Below.refl _ _⟩
end Go.Proofs.YtpjbeenakkfcfaaGreat

/- Flatten: zzAnyToInts, ZZflatten2, ZZflatten3. -/
import Derived.Test.YtgnilcmhaobgeaaGreatFlaE
import Derived.Test.YtgnilcmhaobgeaaGreatFlaC
namespace Go.Proofs.YtgnilcmhaobgeaaGreat
open Go.RowKit Go.Deep

theorem ta_int (v : Value) (w : World) : (Instr.typeAssert (.iface 3 v) 20 3 true).run Tryz.prog w = .ok (.tuple #[v, .bool true]) w := by
  simp [Instr.typeAssert, run_underlying Tryz.underlying3]
/-- the list L as a row of ints -/
def IntRow (w : World) (b : Nat) (L : List Int) : Prop := w.rowIs b 3 L.length (fun i => .int .i64 (L.getD i 0))
def ToIntsPost (w : World) (L : List Int) (e : Ending) (w' : World) : Prop := ∃ b, e = .returned (.tuple #[.slice (some ⟨b, 0, none⟩) L.length L.length, .bool true]) ∧ Below w.heap.size w w' ∧ IntRow w' b L

set_option maxRecDepth 100000 in
set_option maxHeartbeats 1000000 in
theorem toInts_nil (w : World) : Calls Tryz.prog 14 #[.slice none 0 0] w fun e w' => e = .returned (.tuple #[.slice none 0 0, .bool true]) ∧ w = w' := by
  have qT : ∀ (w : World) (a : Option Addr) (n c n' c' : Nat), (binOp .eql 47 (.slice a n c) (.slice none n' c')).run Tryz.prog w = .ok (.bool a.isNone) w := fun w a n c n' c' => Lib.run_eql_slice_nil w _ _ a n c n' c' Tryz.underlying47
  go_enter Tryz.func14, Tryz.ntmps14
  go_wp2_with fail
  go_ret2
  exact ⟨rfl, rfl⟩

set_option maxRecDepth 100000 in
set_option maxHeartbeats 1000000 in
theorem toInts (base : Nat) (v : Value) (L : List Int) (w : World) (hl : L.length ≤ 65536) (h : Got base w v L) : Calls Tryz.prog 14 #[v] w (ToIntsPost w L) := by
  have qT : ∀ (w : World) (a : Option Addr) (n c n' c' : Nat), (binOp .eql 47 (.slice a n c) (.slice none n' c')).run Tryz.prog w = .ok (.bool a.isNone) w := fun w a n c n' c' => Lib.run_eql_slice_nil w _ _ a n c n' c' Tryz.underlying47
  have mk := run_make_row' (P := Tryz.prog) 38 3 _ _ Tryz.underlying38 infoI64 rfl .i64 .i64 L.length (by omega) (by omega)
  have tI := ta_int
  obtain ⟨g, c, rfl⟩ := h.shape
  have HG := Lib.hid h.cells
  obtain ⟨z, hz⟩ : ∃ z : Nat → Int, ∀ i, z i = L.getD i 0 := ⟨_, fun _ => rfl⟩
  have HZ := Lib.hid hz
  clear h hz
  go_enter Tryz.func14, Tryz.ntmps14
  go_wp2_with fail
  go_loopw [5] (fun i wr => ∃ k : Nat, k ≤ L.length ∧ i = .int .i64 k ∧ Below w.heap.size w wr ∧ wr.rowIs w.heap.size 3 L.length (fun i => if i < k then .int .i64 (z i) else .int .i64 0)) (fun i _ => L.length - (intOf i).toNat)
  case atStart => exact ⟨0, Nat.zero_le _, rfl, (Below.refl _ _).alloc (Nat.le_refl _) _, (World.rowIs_made w (.int .i64 0) L.length _).congr fun i _ => by simp⟩
  case round =>
    obtain ⟨k, hk, rfl, hb, hr⟩ := hrel
    by_cases hlt : k < L.length
    · have hc0 := HG.out.2.2.2 k (anyInt (z k)) (by rw [HZ.out]; simp [hlt])
      have ea : (⟨g, 0, none⟩ : Addr).add k = ⟨g, k, none⟩ := by unfold Addr.add; split <;> simp_all
      rw [ea] at hc0
      have hc : wr.cell? ⟨g, k, none⟩ = some (.iface 3 (.int .i64 (z k))) := by rw [hb.cell (p := ⟨g, k, none⟩) (lt_of_cell hc0)]; exact hc0
      have c1 : wr.cell? ⟨w.heap.size, k, none⟩ = some (.int .i64 0) := by rw [hr.cell hlt]; simp
      have c2 := hr.frozen k
      have c3 := hr.lt
      have HR := Lib.hid hr
      have HB := Lib.hid hb
      clear hr hb hc0 ea mk
      go_wp2_with fail
      go_roundw
      case rel =>
        refine ⟨k + 1, by omega, by go_num, HB.out.setCell (Nat.le_refl _) _, (HR.out.set k _).congr fun i _ => ?_⟩
        by_cases h1 : i = k
        · subst h1; simp
        · by_cases h2 : i < k
          · rw [if_neg h1, if_pos h2, if_pos (by omega)]
          · rw [if_neg h1, if_neg h2, if_neg (by omega)]
      case measure => simp [intOf]; omega
    · obtain rfl : k = L.length := by omega
      have HR := Lib.hid hr
      have HB := Lib.hid hb
      clear hr hb mk
      go_wp2_with fail
      go_ret2
      exact ⟨_, rfl, HB.out, HR.out.congr fun i hi => by rw [if_pos hi, HZ.out]⟩

/-- flatten's answer as ints -/
def ZPost (w : World) (L : List Int) (e : Ending) (w' : World) : Prop := ∃ b, e = .returned (.tuple #[.slice (some ⟨b, 0, none⟩) L.length L.length, .bool true, .nilIface]) ∧ Below w.heap.size w w' ∧ IntRow w' b L
def ZErr (w : World) (e : Ending) (w' : World) : Prop := ∃ T s, e = .returned (.tuple #[.slice none 0 0, .bool true, .iface T (.string s)]) ∧ Below w.heap.size w w'
end Go.Proofs.YtgnilcmhaobgeaaGreat

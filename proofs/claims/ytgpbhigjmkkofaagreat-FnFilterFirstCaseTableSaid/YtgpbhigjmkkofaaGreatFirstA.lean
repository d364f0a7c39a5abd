/- zzFFBuild: the tree that it lays, one theorem a case. Printed by firstgen.py. -/
import Derived.Test.YtgpbhigjmkkofaaGreatFirstS
namespace Go.Proofs.YtgpbhigjmkkofaaGreat
open Go.RowKit Go.Deep
set_option maxRecDepth 100000 in
set_option maxHeartbeats 4000000 in
theorem ff_idn_id (n : Nat) (hn : n ≤ 4096) (on inn : ByteArray) (m : Nat) (_hm : m ≤ 4096) (pv : Int) (opt : Bool) (pk : Int) (P : FP) (wm : Bool) (w : World) :
    Calls Tryz.prog 20 #[.int .i64 2, .string on, .int .i64 m, .int .i64 pk, .int .i64 pv, .bool opt, .int .i64 1, .string inn, .int .i64 n, .bool wm] w (FFPost w .idn P on m pv opt false wm inn n) := by
  have mk1 := run_make_row' (P := Tryz.prog) 78 39 _ _ Tryz.underlying78 infoPInt rfl .i64 .i64 n (by omega) (by omega)
  have mk2 := run_make_row' (P := Tryz.prog) 62 59 _ _ Tryz.underlying62 infoNode rfl .i64 .i64 n (by omega) (by omega)
  go_enter Tryz.func20, Tryz.ntmps20
  go_wp2_with fail
  go_loopw [24] (fun i wr => ∃ k : Nat, k ≤ n ∧ i = .int .i64 k ∧ Laid2 w wr n k) (fun i _ => n - (intOf i).toNat)
  case atStart => exact ⟨0, Nat.zero_le _, rfl, Laid2.start w n⟩
  case round =>
    obtain ⟨k, hk, rfl, hl⟩ := hrel
    by_cases hlt : k < n
    · have cp : wr.cell? ⟨w.heap.size + 1 + 1 + 1, k, none⟩ = some (.pointer none) := by rw [hl.ptrs.cell hlt]; simp
      have fp := hl.ptrs.frozen k
      have cn : wr.cell? ⟨w.heap.size + 1 + 1, k, none⟩ = some .nilIface := by rw [hl.nodes.cell hlt]; simp
      have fn := hl.nodes.frozen k
      have ct : wr.cell? ⟨w.heap.size + 1, 4, none⟩ = some (.slice (some ⟨w.heap.size + 1 + 1 + 1, 0, none⟩) n n) := by rw [cell_of_block hl.loc]; rfl
      have l1 : w.heap.size + 1 < wr.heap.size := by have := hl.size; omega
      have l2 : w.heap.size + 1 + 1 < wr.heap.size := by have := hl.size; omega
      have l3 : w.heap.size + 1 + 1 + 1 < wr.heap.size := by have := hl.size; omega
      have HS := Lib.hid (hl.step hlt)
      clear hl mk1 mk2
      go_wp2_with fail
      go_roundw
      case rel => exact ⟨k + 1, by omega, by go_num, HS.out⟩
      case measure => simp [intOf]; omega
    · obtain rfl : k = n := by omega
      have ct0 : wr.cell? ⟨w.heap.size + 1, 0, none⟩ = some (.pointer none) := by rw [cell_of_block hl.loc]; rfl
      have ct1 : wr.cell? ⟨w.heap.size + 1, 1, none⟩ = some (.pointer none) := by rw [cell_of_block hl.loc]; rfl
      have ct2 : wr.cell? ⟨w.heap.size + 1, 2, none⟩ = some (.pointer none) := by rw [cell_of_block hl.loc]; rfl
      have ct3 : wr.cell? ⟨w.heap.size + 1, 3, none⟩ = some (.pointer none) := by rw [cell_of_block hl.loc]; rfl
      have ct4 : wr.cell? ⟨w.heap.size + 1, 4, none⟩ = some (.slice (some ⟨w.heap.size + 1 + 1 + 1, 0, none⟩) k k) := by rw [cell_of_block hl.loc]; rfl
      have ct5 : wr.cell? ⟨w.heap.size + 1, 5, none⟩ = some (.pointer none) := by rw [cell_of_block hl.loc]; rfl
      have cr0 : wr.cell? ⟨w.heap.size, 0, none⟩ = some (.pointer none) := by rw [cell_of_block hl.res]; rfl
      have cr1 : wr.cell? ⟨w.heap.size, 1, none⟩ = some (.pointer none) := by rw [cell_of_block hl.res]; rfl
      have cr2 : wr.cell? ⟨w.heap.size, 2, none⟩ = some (.pointer none) := by rw [cell_of_block hl.res]; rfl
      have cr3 : wr.cell? ⟨w.heap.size, 3, none⟩ = some (.pointer none) := by rw [cell_of_block hl.res]; rfl
      have cr4 : wr.cell? ⟨w.heap.size, 4, none⟩ = some (.slice none 0 0) := by rw [cell_of_block hl.res]; rfl
      have cr5 : wr.cell? ⟨w.heap.size, 5, none⟩ = some (.pointer none) := by rw [cell_of_block hl.res]; rfl
      have fr0 := free_of_block hl.res 0
      have ft0 := free_of_block hl.loc 0
      have fr1 := free_of_block hl.res 1
      have ft1 := free_of_block hl.loc 1
      have fr2 := free_of_block hl.res 2
      have ft2 := free_of_block hl.loc 2
      have fr3 := free_of_block hl.res 3
      have ft3 := free_of_block hl.loc 3
      have fr4 := free_of_block hl.res 4
      have ft4 := free_of_block hl.loc 4
      have fr5 := free_of_block hl.res 5
      have ft5 := free_of_block hl.loc 5
      have l0 : w.heap.size < wr.heap.size := by have := hl.size; omega
      have l1 : w.heap.size + 1 < wr.heap.size := by have := hl.size; omega
      have l01 : w.heap.size < wr.heap.size + 1 := by omega
      have l11 : w.heap.size + 1 < wr.heap.size + 1 := by omega
      have l02 : w.heap.size < wr.heap.size + 1 + 1 := by omega
      have l12 : w.heap.size + 1 < wr.heap.size + 1 + 1 := by omega
      have l03 : w.heap.size < wr.heap.size + 1 + 1 + 1 := by omega
      have l13 : w.heap.size + 1 < wr.heap.size + 1 + 1 + 1 := by omega
      have l04 : w.heap.size < wr.heap.size + 1 + 1 + 1 + 1 := by omega
      have l14 : w.heap.size + 1 < wr.heap.size + 1 + 1 + 1 + 1 := by omega
      have HL := Lib.hid hl
      clear hl mk1 mk2
      go_wp2_with fail
      refine bodyPost_ret (v := .tuple #[.agg #[.pointer none, .pointer none, (.pointer (some ⟨(wr.heap.size + 1), 0, none⟩)), .pointer none, (.slice (some ⟨w.heap.size + 1 + 1 + 1, 0, none⟩) k k), .pointer none], (.iface 37 (.pointer (some ⟨(wr.heap.size + 1), 0, none⟩)))]) (by simp [results, Tryz.results20, go_sem, l0, l01, cr0, cr1, cr2, cr3, cr4, cr5]) rfl ?_
      have hs := HL.out.size
      refine ⟨(wr.heap.size + 1), 0, 0, wr.heap.size, 0, w.heap.size + 1 + 1 + 1, w.heap.size + 1 + 1, w.heap.size + 4, rfl, FF.of HL.out ((((((((((Wr.refl _ _).set (by simp) _).set (by simp) _).set (by simp) _).set (by simp) _).set (by simp) _).set (by simp) _).set (by simp) _).alloc _).alloc _) ?_ ?_⟩
      · show _ = _; rw [alloc_old _ (by simp only [alloc_size, set_size]; omega)]; exact alloc_new' (by simp only [set_size])
      · show _ = _; exact alloc_new' (by simp only [alloc_size, set_size])
set_option maxRecDepth 100000 in
set_option maxHeartbeats 4000000 in
theorem ff_idn_bn (n : Nat) (hn : n ≤ 4096) (on inn : ByteArray) (m : Nat) (_hm : m ≤ 4096) (pv : Int) (opt : Bool) (pk : Int) (P : FP) (w : World) :
    Calls Tryz.prog 20 #[.int .i64 2, .string on, .int .i64 m, .int .i64 pk, .int .i64 pv, .bool opt, .int .i64 0, .string inn, .int .i64 n, .bool false] w (FFPost w .idn P on m pv opt true false inn n) := by
  have mk1 := run_make_row' (P := Tryz.prog) 78 39 _ _ Tryz.underlying78 infoPInt rfl .i64 .i64 n (by omega) (by omega)
  have mk2 := run_make_row' (P := Tryz.prog) 62 59 _ _ Tryz.underlying62 infoNode rfl .i64 .i64 n (by omega) (by omega)
  go_enter Tryz.func20, Tryz.ntmps20
  go_wp2_with fail
  go_loopw [24] (fun i wr => ∃ k : Nat, k ≤ n ∧ i = .int .i64 k ∧ Laid2 w wr n k) (fun i _ => n - (intOf i).toNat)
  case atStart => exact ⟨0, Nat.zero_le _, rfl, Laid2.start w n⟩
  case round =>
    obtain ⟨k, hk, rfl, hl⟩ := hrel
    by_cases hlt : k < n
    · have cp : wr.cell? ⟨w.heap.size + 1 + 1 + 1, k, none⟩ = some (.pointer none) := by rw [hl.ptrs.cell hlt]; simp
      have fp := hl.ptrs.frozen k
      have cn : wr.cell? ⟨w.heap.size + 1 + 1, k, none⟩ = some .nilIface := by rw [hl.nodes.cell hlt]; simp
      have fn := hl.nodes.frozen k
      have ct : wr.cell? ⟨w.heap.size + 1, 4, none⟩ = some (.slice (some ⟨w.heap.size + 1 + 1 + 1, 0, none⟩) n n) := by rw [cell_of_block hl.loc]; rfl
      have l1 : w.heap.size + 1 < wr.heap.size := by have := hl.size; omega
      have l2 : w.heap.size + 1 + 1 < wr.heap.size := by have := hl.size; omega
      have l3 : w.heap.size + 1 + 1 + 1 < wr.heap.size := by have := hl.size; omega
      have HS := Lib.hid (hl.step hlt)
      clear hl mk1 mk2
      go_wp2_with fail
      go_roundw
      case rel => exact ⟨k + 1, by omega, by go_num, HS.out⟩
      case measure => simp [intOf]; omega
    · obtain rfl : k = n := by omega
      have ct0 : wr.cell? ⟨w.heap.size + 1, 0, none⟩ = some (.pointer none) := by rw [cell_of_block hl.loc]; rfl
      have ct1 : wr.cell? ⟨w.heap.size + 1, 1, none⟩ = some (.pointer none) := by rw [cell_of_block hl.loc]; rfl
      have ct2 : wr.cell? ⟨w.heap.size + 1, 2, none⟩ = some (.pointer none) := by rw [cell_of_block hl.loc]; rfl
      have ct3 : wr.cell? ⟨w.heap.size + 1, 3, none⟩ = some (.pointer none) := by rw [cell_of_block hl.loc]; rfl
      have ct4 : wr.cell? ⟨w.heap.size + 1, 4, none⟩ = some (.slice (some ⟨w.heap.size + 1 + 1 + 1, 0, none⟩) k k) := by rw [cell_of_block hl.loc]; rfl
      have ct5 : wr.cell? ⟨w.heap.size + 1, 5, none⟩ = some (.pointer none) := by rw [cell_of_block hl.loc]; rfl
      have cr0 : wr.cell? ⟨w.heap.size, 0, none⟩ = some (.pointer none) := by rw [cell_of_block hl.res]; rfl
      have cr1 : wr.cell? ⟨w.heap.size, 1, none⟩ = some (.pointer none) := by rw [cell_of_block hl.res]; rfl
      have cr2 : wr.cell? ⟨w.heap.size, 2, none⟩ = some (.pointer none) := by rw [cell_of_block hl.res]; rfl
      have cr3 : wr.cell? ⟨w.heap.size, 3, none⟩ = some (.pointer none) := by rw [cell_of_block hl.res]; rfl
      have cr4 : wr.cell? ⟨w.heap.size, 4, none⟩ = some (.slice none 0 0) := by rw [cell_of_block hl.res]; rfl
      have cr5 : wr.cell? ⟨w.heap.size, 5, none⟩ = some (.pointer none) := by rw [cell_of_block hl.res]; rfl
      have fr0 := free_of_block hl.res 0
      have ft0 := free_of_block hl.loc 0
      have fr1 := free_of_block hl.res 1
      have ft1 := free_of_block hl.loc 1
      have fr2 := free_of_block hl.res 2
      have ft2 := free_of_block hl.loc 2
      have fr3 := free_of_block hl.res 3
      have ft3 := free_of_block hl.loc 3
      have fr4 := free_of_block hl.res 4
      have ft4 := free_of_block hl.loc 4
      have fr5 := free_of_block hl.res 5
      have ft5 := free_of_block hl.loc 5
      have l0 : w.heap.size < wr.heap.size := by have := hl.size; omega
      have l1 : w.heap.size + 1 < wr.heap.size := by have := hl.size; omega
      have l01 : w.heap.size < wr.heap.size + 1 := by omega
      have l11 : w.heap.size + 1 < wr.heap.size + 1 := by omega
      have l02 : w.heap.size < wr.heap.size + 1 + 1 := by omega
      have l12 : w.heap.size + 1 < wr.heap.size + 1 + 1 := by omega
      have l03 : w.heap.size < wr.heap.size + 1 + 1 + 1 := by omega
      have l13 : w.heap.size + 1 < wr.heap.size + 1 + 1 + 1 := by omega
      have l04 : w.heap.size < wr.heap.size + 1 + 1 + 1 + 1 := by omega
      have l14 : w.heap.size + 1 < wr.heap.size + 1 + 1 + 1 + 1 := by omega
      have HL := Lib.hid hl
      clear hl mk1 mk2
      go_wp2_with fail
      refine bodyPost_ret (v := .tuple #[.agg #[.pointer none, .pointer none, (.pointer (some ⟨(wr.heap.size + 1), 0, none⟩)), (.pointer (some ⟨wr.heap.size, 0, none⟩)), (.slice (some ⟨w.heap.size + 1 + 1 + 1, 0, none⟩) k k), .pointer none], (.iface 37 (.pointer (some ⟨(wr.heap.size + 1), 0, none⟩)))]) (by simp [results, Tryz.results20, go_sem, l0, l01, cr0, cr1, cr2, cr3, cr4, cr5]) rfl ?_
      have hs := HL.out.size
      refine ⟨(wr.heap.size + 1), 0, 0, wr.heap.size, 0, w.heap.size + 1 + 1 + 1, w.heap.size + 1 + 1, w.heap.size + 4, rfl, FF.of HL.out (((((((((((Wr.refl _ _).set (by simp) _).set (by simp) _).set (by simp) _).set (by simp) _).set (by simp) _).set (by simp) _).set (by simp) _).set (by simp) _).alloc _).alloc _) ?_ ?_⟩
      · show _ = _; rw [alloc_old _ (by simp only [alloc_size, set_size]; omega)]; exact alloc_new' (by simp only [set_size])
      · show _ = _; exact alloc_new' (by simp only [alloc_size, set_size])
set_option maxRecDepth 100000 in
set_option maxHeartbeats 4000000 in
theorem ff_idn_bm (n : Nat) (hn : n ≤ 4096) (on inn : ByteArray) (m : Nat) (_hm : m ≤ 4096) (pv : Int) (opt : Bool) (pk : Int) (P : FP) (w : World) :
    Calls Tryz.prog 20 #[.int .i64 2, .string on, .int .i64 m, .int .i64 pk, .int .i64 pv, .bool opt, .int .i64 0, .string inn, .int .i64 n, .bool true] w (FFPost w .idn P on m pv opt true true inn n) := by
  have mk1 := run_make_row' (P := Tryz.prog) 78 39 _ _ Tryz.underlying78 infoPInt rfl .i64 .i64 n (by omega) (by omega)
  have mk2 := run_make_row' (P := Tryz.prog) 62 59 _ _ Tryz.underlying62 infoNode rfl .i64 .i64 n (by omega) (by omega)
  go_enter Tryz.func20, Tryz.ntmps20
  go_wp2_with fail
  go_loopw [24] (fun i wr => ∃ k : Nat, k ≤ n ∧ i = .int .i64 k ∧ Laid2 w wr n k) (fun i _ => n - (intOf i).toNat)
  case atStart => exact ⟨0, Nat.zero_le _, rfl, Laid2.start w n⟩
  case round =>
    obtain ⟨k, hk, rfl, hl⟩ := hrel
    by_cases hlt : k < n
    · have cp : wr.cell? ⟨w.heap.size + 1 + 1 + 1, k, none⟩ = some (.pointer none) := by rw [hl.ptrs.cell hlt]; simp
      have fp := hl.ptrs.frozen k
      have cn : wr.cell? ⟨w.heap.size + 1 + 1, k, none⟩ = some .nilIface := by rw [hl.nodes.cell hlt]; simp
      have fn := hl.nodes.frozen k
      have ct : wr.cell? ⟨w.heap.size + 1, 4, none⟩ = some (.slice (some ⟨w.heap.size + 1 + 1 + 1, 0, none⟩) n n) := by rw [cell_of_block hl.loc]; rfl
      have l1 : w.heap.size + 1 < wr.heap.size := by have := hl.size; omega
      have l2 : w.heap.size + 1 + 1 < wr.heap.size := by have := hl.size; omega
      have l3 : w.heap.size + 1 + 1 + 1 < wr.heap.size := by have := hl.size; omega
      have HS := Lib.hid (hl.step hlt)
      clear hl mk1 mk2
      go_wp2_with fail
      go_roundw
      case rel => exact ⟨k + 1, by omega, by go_num, HS.out⟩
      case measure => simp [intOf]; omega
    · obtain rfl : k = n := by omega
      have ct0 : wr.cell? ⟨w.heap.size + 1, 0, none⟩ = some (.pointer none) := by rw [cell_of_block hl.loc]; rfl
      have ct1 : wr.cell? ⟨w.heap.size + 1, 1, none⟩ = some (.pointer none) := by rw [cell_of_block hl.loc]; rfl
      have ct2 : wr.cell? ⟨w.heap.size + 1, 2, none⟩ = some (.pointer none) := by rw [cell_of_block hl.loc]; rfl
      have ct3 : wr.cell? ⟨w.heap.size + 1, 3, none⟩ = some (.pointer none) := by rw [cell_of_block hl.loc]; rfl
      have ct4 : wr.cell? ⟨w.heap.size + 1, 4, none⟩ = some (.slice (some ⟨w.heap.size + 1 + 1 + 1, 0, none⟩) k k) := by rw [cell_of_block hl.loc]; rfl
      have ct5 : wr.cell? ⟨w.heap.size + 1, 5, none⟩ = some (.pointer none) := by rw [cell_of_block hl.loc]; rfl
      have cr0 : wr.cell? ⟨w.heap.size, 0, none⟩ = some (.pointer none) := by rw [cell_of_block hl.res]; rfl
      have cr1 : wr.cell? ⟨w.heap.size, 1, none⟩ = some (.pointer none) := by rw [cell_of_block hl.res]; rfl
      have cr2 : wr.cell? ⟨w.heap.size, 2, none⟩ = some (.pointer none) := by rw [cell_of_block hl.res]; rfl
      have cr3 : wr.cell? ⟨w.heap.size, 3, none⟩ = some (.pointer none) := by rw [cell_of_block hl.res]; rfl
      have cr4 : wr.cell? ⟨w.heap.size, 4, none⟩ = some (.slice none 0 0) := by rw [cell_of_block hl.res]; rfl
      have cr5 : wr.cell? ⟨w.heap.size, 5, none⟩ = some (.pointer none) := by rw [cell_of_block hl.res]; rfl
      have fr0 := free_of_block hl.res 0
      have ft0 := free_of_block hl.loc 0
      have fr1 := free_of_block hl.res 1
      have ft1 := free_of_block hl.loc 1
      have fr2 := free_of_block hl.res 2
      have ft2 := free_of_block hl.loc 2
      have fr3 := free_of_block hl.res 3
      have ft3 := free_of_block hl.loc 3
      have fr4 := free_of_block hl.res 4
      have ft4 := free_of_block hl.loc 4
      have fr5 := free_of_block hl.res 5
      have ft5 := free_of_block hl.loc 5
      have l0 : w.heap.size < wr.heap.size := by have := hl.size; omega
      have l1 : w.heap.size + 1 < wr.heap.size := by have := hl.size; omega
      have l01 : w.heap.size < wr.heap.size + 1 := by omega
      have l11 : w.heap.size + 1 < wr.heap.size + 1 := by omega
      have l02 : w.heap.size < wr.heap.size + 1 + 1 := by omega
      have l12 : w.heap.size + 1 < wr.heap.size + 1 + 1 := by omega
      have l03 : w.heap.size < wr.heap.size + 1 + 1 + 1 := by omega
      have l13 : w.heap.size + 1 < wr.heap.size + 1 + 1 + 1 := by omega
      have l04 : w.heap.size < wr.heap.size + 1 + 1 + 1 + 1 := by omega
      have l14 : w.heap.size + 1 < wr.heap.size + 1 + 1 + 1 + 1 := by omega
      have HL := Lib.hid hl
      clear hl mk1 mk2
      go_wp2_with fail
      refine bodyPost_ret (v := .tuple #[.agg #[.pointer none, .pointer none, (.pointer (some ⟨(wr.heap.size + 1 + 1), 0, none⟩)), (.pointer (some ⟨wr.heap.size, 0, none⟩)), (.slice (some ⟨w.heap.size + 1 + 1 + 1, 0, none⟩) k k), (.pointer (some ⟨(wr.heap.size + 1), 0, none⟩))], (.iface 37 (.pointer (some ⟨(wr.heap.size + 1 + 1), 0, none⟩)))]) (by simp [results, Tryz.results20, go_sem, l0, l01, l02, cr0, cr1, cr2, cr3, cr4, cr5]) rfl ?_
      have hs := HL.out.size
      refine ⟨(wr.heap.size + 1 + 1), 0, 0, wr.heap.size, (wr.heap.size + 1), w.heap.size + 1 + 1 + 1, w.heap.size + 1 + 1, w.heap.size + 4, rfl, FF.of HL.out (((((((((((((Wr.refl _ _).set (by simp) _).set (by simp) _).set (by simp) _).set (by simp) _).set (by simp) _).set (by simp) _).set (by simp) _).set (by simp) _).set (by simp) _).alloc _).alloc _).alloc _) ?_ ?_⟩
      · show _ = _; rw [alloc_old _ (by simp only [alloc_size, set_size]; omega)]; rw [alloc_old _ (by simp only [alloc_size, set_size]; omega)]; exact alloc_new' (by simp only [set_size])
      · show _ = _; exact alloc_new' (by simp only [alloc_size, set_size])
set_option maxRecDepth 100000 in
set_option maxHeartbeats 4000000 in
theorem ff_memno_id (n : Nat) (hn : n ≤ 4096) (on inn : ByteArray) (m : Nat) (_hm : m ≤ 4096) (pv : Int) (opt : Bool) (wm : Bool) (w : World) :
    Calls Tryz.prog 20 #[.int .i64 0, .string on, .int .i64 m, .int .i64 0, .int .i64 pv, .bool opt, .int .i64 1, .string inn, .int .i64 n, .bool wm] w (FFPost w .mem .no on m pv opt false wm inn n) := by
  have mk1 := run_make_row' (P := Tryz.prog) 78 39 _ _ Tryz.underlying78 infoPInt rfl .i64 .i64 n (by omega) (by omega)
  have mk2 := run_make_row' (P := Tryz.prog) 62 59 _ _ Tryz.underlying62 infoNode rfl .i64 .i64 n (by omega) (by omega)
  go_enter Tryz.func20, Tryz.ntmps20
  go_wp2_with fail
  go_loopw [24] (fun i wr => ∃ k : Nat, k ≤ n ∧ i = .int .i64 k ∧ Laid2 w wr n k) (fun i _ => n - (intOf i).toNat)
  case atStart => exact ⟨0, Nat.zero_le _, rfl, Laid2.start w n⟩
  case round =>
    obtain ⟨k, hk, rfl, hl⟩ := hrel
    by_cases hlt : k < n
    · have cp : wr.cell? ⟨w.heap.size + 1 + 1 + 1, k, none⟩ = some (.pointer none) := by rw [hl.ptrs.cell hlt]; simp
      have fp := hl.ptrs.frozen k
      have cn : wr.cell? ⟨w.heap.size + 1 + 1, k, none⟩ = some .nilIface := by rw [hl.nodes.cell hlt]; simp
      have fn := hl.nodes.frozen k
      have ct : wr.cell? ⟨w.heap.size + 1, 4, none⟩ = some (.slice (some ⟨w.heap.size + 1 + 1 + 1, 0, none⟩) n n) := by rw [cell_of_block hl.loc]; rfl
      have l1 : w.heap.size + 1 < wr.heap.size := by have := hl.size; omega
      have l2 : w.heap.size + 1 + 1 < wr.heap.size := by have := hl.size; omega
      have l3 : w.heap.size + 1 + 1 + 1 < wr.heap.size := by have := hl.size; omega
      have HS := Lib.hid (hl.step hlt)
      clear hl mk1 mk2
      go_wp2_with fail
      go_roundw
      case rel => exact ⟨k + 1, by omega, by go_num, HS.out⟩
      case measure => simp [intOf]; omega
    · obtain rfl : k = n := by omega
      have ct0 : wr.cell? ⟨w.heap.size + 1, 0, none⟩ = some (.pointer none) := by rw [cell_of_block hl.loc]; rfl
      have ct1 : wr.cell? ⟨w.heap.size + 1, 1, none⟩ = some (.pointer none) := by rw [cell_of_block hl.loc]; rfl
      have ct2 : wr.cell? ⟨w.heap.size + 1, 2, none⟩ = some (.pointer none) := by rw [cell_of_block hl.loc]; rfl
      have ct3 : wr.cell? ⟨w.heap.size + 1, 3, none⟩ = some (.pointer none) := by rw [cell_of_block hl.loc]; rfl
      have ct4 : wr.cell? ⟨w.heap.size + 1, 4, none⟩ = some (.slice (some ⟨w.heap.size + 1 + 1 + 1, 0, none⟩) k k) := by rw [cell_of_block hl.loc]; rfl
      have ct5 : wr.cell? ⟨w.heap.size + 1, 5, none⟩ = some (.pointer none) := by rw [cell_of_block hl.loc]; rfl
      have cr0 : wr.cell? ⟨w.heap.size, 0, none⟩ = some (.pointer none) := by rw [cell_of_block hl.res]; rfl
      have cr1 : wr.cell? ⟨w.heap.size, 1, none⟩ = some (.pointer none) := by rw [cell_of_block hl.res]; rfl
      have cr2 : wr.cell? ⟨w.heap.size, 2, none⟩ = some (.pointer none) := by rw [cell_of_block hl.res]; rfl
      have cr3 : wr.cell? ⟨w.heap.size, 3, none⟩ = some (.pointer none) := by rw [cell_of_block hl.res]; rfl
      have cr4 : wr.cell? ⟨w.heap.size, 4, none⟩ = some (.slice none 0 0) := by rw [cell_of_block hl.res]; rfl
      have cr5 : wr.cell? ⟨w.heap.size, 5, none⟩ = some (.pointer none) := by rw [cell_of_block hl.res]; rfl
      have fr0 := free_of_block hl.res 0
      have ft0 := free_of_block hl.loc 0
      have fr1 := free_of_block hl.res 1
      have ft1 := free_of_block hl.loc 1
      have fr2 := free_of_block hl.res 2
      have ft2 := free_of_block hl.loc 2
      have fr3 := free_of_block hl.res 3
      have ft3 := free_of_block hl.loc 3
      have fr4 := free_of_block hl.res 4
      have ft4 := free_of_block hl.loc 4
      have fr5 := free_of_block hl.res 5
      have ft5 := free_of_block hl.loc 5
      have l0 : w.heap.size < wr.heap.size := by have := hl.size; omega
      have l1 : w.heap.size + 1 < wr.heap.size := by have := hl.size; omega
      have l01 : w.heap.size < wr.heap.size + 1 := by omega
      have l11 : w.heap.size + 1 < wr.heap.size + 1 := by omega
      have l02 : w.heap.size < wr.heap.size + 1 + 1 := by omega
      have l12 : w.heap.size + 1 < wr.heap.size + 1 + 1 := by omega
      have l03 : w.heap.size < wr.heap.size + 1 + 1 + 1 := by omega
      have l13 : w.heap.size + 1 < wr.heap.size + 1 + 1 + 1 := by omega
      have l04 : w.heap.size < wr.heap.size + 1 + 1 + 1 + 1 := by omega
      have l14 : w.heap.size + 1 < wr.heap.size + 1 + 1 + 1 + 1 := by omega
      have HL := Lib.hid hl
      clear hl mk1 mk2
      go_wp2_with fail
      refine bodyPost_ret (v := .tuple #[.agg #[(.pointer (some ⟨(wr.heap.size + 1), 0, none⟩)), .pointer none, .pointer none, .pointer none, (.slice (some ⟨w.heap.size + 1 + 1 + 1, 0, none⟩) k k), .pointer none], (.iface 89 (.pointer (some ⟨(wr.heap.size + 1), 0, none⟩)))]) (by simp [results, Tryz.results20, go_sem, l0, l01, cr0, cr1, cr2, cr3, cr4, cr5]) rfl ?_
      have hs := HL.out.size
      refine ⟨(wr.heap.size + 1), 0, 0, wr.heap.size, 0, w.heap.size + 1 + 1 + 1, w.heap.size + 1 + 1, w.heap.size + 4, rfl, FF.of HL.out ((((((((((Wr.refl _ _).set (by simp) _).set (by simp) _).set (by simp) _).set (by simp) _).set (by simp) _).set (by simp) _).set (by simp) _).alloc _).alloc _) ?_ ?_⟩
      · show _ = _; rw [alloc_old _ (by simp only [alloc_size, set_size]; omega)]; exact alloc_new' (by simp only [set_size])
      · refine ⟨?_, trivial⟩
        · show _ = _; exact alloc_new' (by simp only [alloc_size, set_size])
set_option maxRecDepth 100000 in
set_option maxHeartbeats 4000000 in
theorem ff_memno_bn (n : Nat) (hn : n ≤ 4096) (on inn : ByteArray) (m : Nat) (_hm : m ≤ 4096) (pv : Int) (opt : Bool) (w : World) :
    Calls Tryz.prog 20 #[.int .i64 0, .string on, .int .i64 m, .int .i64 0, .int .i64 pv, .bool opt, .int .i64 0, .string inn, .int .i64 n, .bool false] w (FFPost w .mem .no on m pv opt true false inn n) := by
  have mk1 := run_make_row' (P := Tryz.prog) 78 39 _ _ Tryz.underlying78 infoPInt rfl .i64 .i64 n (by omega) (by omega)
  have mk2 := run_make_row' (P := Tryz.prog) 62 59 _ _ Tryz.underlying62 infoNode rfl .i64 .i64 n (by omega) (by omega)
  go_enter Tryz.func20, Tryz.ntmps20
  go_wp2_with fail
  go_loopw [24] (fun i wr => ∃ k : Nat, k ≤ n ∧ i = .int .i64 k ∧ Laid2 w wr n k) (fun i _ => n - (intOf i).toNat)
  case atStart => exact ⟨0, Nat.zero_le _, rfl, Laid2.start w n⟩
  case round =>
    obtain ⟨k, hk, rfl, hl⟩ := hrel
    by_cases hlt : k < n
    · have cp : wr.cell? ⟨w.heap.size + 1 + 1 + 1, k, none⟩ = some (.pointer none) := by rw [hl.ptrs.cell hlt]; simp
      have fp := hl.ptrs.frozen k
      have cn : wr.cell? ⟨w.heap.size + 1 + 1, k, none⟩ = some .nilIface := by rw [hl.nodes.cell hlt]; simp
      have fn := hl.nodes.frozen k
      have ct : wr.cell? ⟨w.heap.size + 1, 4, none⟩ = some (.slice (some ⟨w.heap.size + 1 + 1 + 1, 0, none⟩) n n) := by rw [cell_of_block hl.loc]; rfl
      have l1 : w.heap.size + 1 < wr.heap.size := by have := hl.size; omega
      have l2 : w.heap.size + 1 + 1 < wr.heap.size := by have := hl.size; omega
      have l3 : w.heap.size + 1 + 1 + 1 < wr.heap.size := by have := hl.size; omega
      have HS := Lib.hid (hl.step hlt)
      clear hl mk1 mk2
      go_wp2_with fail
      go_roundw
      case rel => exact ⟨k + 1, by omega, by go_num, HS.out⟩
      case measure => simp [intOf]; omega
    · obtain rfl : k = n := by omega
      have ct0 : wr.cell? ⟨w.heap.size + 1, 0, none⟩ = some (.pointer none) := by rw [cell_of_block hl.loc]; rfl
      have ct1 : wr.cell? ⟨w.heap.size + 1, 1, none⟩ = some (.pointer none) := by rw [cell_of_block hl.loc]; rfl
      have ct2 : wr.cell? ⟨w.heap.size + 1, 2, none⟩ = some (.pointer none) := by rw [cell_of_block hl.loc]; rfl
      have ct3 : wr.cell? ⟨w.heap.size + 1, 3, none⟩ = some (.pointer none) := by rw [cell_of_block hl.loc]; rfl
      have ct4 : wr.cell? ⟨w.heap.size + 1, 4, none⟩ = some (.slice (some ⟨w.heap.size + 1 + 1 + 1, 0, none⟩) k k) := by rw [cell_of_block hl.loc]; rfl
      have ct5 : wr.cell? ⟨w.heap.size + 1, 5, none⟩ = some (.pointer none) := by rw [cell_of_block hl.loc]; rfl
      have cr0 : wr.cell? ⟨w.heap.size, 0, none⟩ = some (.pointer none) := by rw [cell_of_block hl.res]; rfl
      have cr1 : wr.cell? ⟨w.heap.size, 1, none⟩ = some (.pointer none) := by rw [cell_of_block hl.res]; rfl
      have cr2 : wr.cell? ⟨w.heap.size, 2, none⟩ = some (.pointer none) := by rw [cell_of_block hl.res]; rfl
      have cr3 : wr.cell? ⟨w.heap.size, 3, none⟩ = some (.pointer none) := by rw [cell_of_block hl.res]; rfl
      have cr4 : wr.cell? ⟨w.heap.size, 4, none⟩ = some (.slice none 0 0) := by rw [cell_of_block hl.res]; rfl
      have cr5 : wr.cell? ⟨w.heap.size, 5, none⟩ = some (.pointer none) := by rw [cell_of_block hl.res]; rfl
      have fr0 := free_of_block hl.res 0
      have ft0 := free_of_block hl.loc 0
      have fr1 := free_of_block hl.res 1
      have ft1 := free_of_block hl.loc 1
      have fr2 := free_of_block hl.res 2
      have ft2 := free_of_block hl.loc 2
      have fr3 := free_of_block hl.res 3
      have ft3 := free_of_block hl.loc 3
      have fr4 := free_of_block hl.res 4
      have ft4 := free_of_block hl.loc 4
      have fr5 := free_of_block hl.res 5
      have ft5 := free_of_block hl.loc 5
      have l0 : w.heap.size < wr.heap.size := by have := hl.size; omega
      have l1 : w.heap.size + 1 < wr.heap.size := by have := hl.size; omega
      have l01 : w.heap.size < wr.heap.size + 1 := by omega
      have l11 : w.heap.size + 1 < wr.heap.size + 1 := by omega
      have l02 : w.heap.size < wr.heap.size + 1 + 1 := by omega
      have l12 : w.heap.size + 1 < wr.heap.size + 1 + 1 := by omega
      have l03 : w.heap.size < wr.heap.size + 1 + 1 + 1 := by omega
      have l13 : w.heap.size + 1 < wr.heap.size + 1 + 1 + 1 := by omega
      have l04 : w.heap.size < wr.heap.size + 1 + 1 + 1 + 1 := by omega
      have l14 : w.heap.size + 1 < wr.heap.size + 1 + 1 + 1 + 1 := by omega
      have HL := Lib.hid hl
      clear hl mk1 mk2
      go_wp2_with fail
      refine bodyPost_ret (v := .tuple #[.agg #[(.pointer (some ⟨(wr.heap.size + 1), 0, none⟩)), .pointer none, .pointer none, (.pointer (some ⟨wr.heap.size, 0, none⟩)), (.slice (some ⟨w.heap.size + 1 + 1 + 1, 0, none⟩) k k), .pointer none], (.iface 89 (.pointer (some ⟨(wr.heap.size + 1), 0, none⟩)))]) (by simp [results, Tryz.results20, go_sem, l0, l01, cr0, cr1, cr2, cr3, cr4, cr5]) rfl ?_
      have hs := HL.out.size
      refine ⟨(wr.heap.size + 1), 0, 0, wr.heap.size, 0, w.heap.size + 1 + 1 + 1, w.heap.size + 1 + 1, w.heap.size + 4, rfl, FF.of HL.out (((((((((((Wr.refl _ _).set (by simp) _).set (by simp) _).set (by simp) _).set (by simp) _).set (by simp) _).set (by simp) _).set (by simp) _).set (by simp) _).alloc _).alloc _) ?_ ?_⟩
      · show _ = _; rw [alloc_old _ (by simp only [alloc_size, set_size]; omega)]; exact alloc_new' (by simp only [set_size])
      · refine ⟨?_, trivial⟩
        · show _ = _; exact alloc_new' (by simp only [alloc_size, set_size])
set_option maxRecDepth 100000 in
set_option maxHeartbeats 4000000 in
theorem ff_memno_bm (n : Nat) (hn : n ≤ 4096) (on inn : ByteArray) (m : Nat) (_hm : m ≤ 4096) (pv : Int) (opt : Bool) (w : World) :
    Calls Tryz.prog 20 #[.int .i64 0, .string on, .int .i64 m, .int .i64 0, .int .i64 pv, .bool opt, .int .i64 0, .string inn, .int .i64 n, .bool true] w (FFPost w .mem .no on m pv opt true true inn n) := by
  have mk1 := run_make_row' (P := Tryz.prog) 78 39 _ _ Tryz.underlying78 infoPInt rfl .i64 .i64 n (by omega) (by omega)
  have mk2 := run_make_row' (P := Tryz.prog) 62 59 _ _ Tryz.underlying62 infoNode rfl .i64 .i64 n (by omega) (by omega)
  go_enter Tryz.func20, Tryz.ntmps20
  go_wp2_with fail
  go_loopw [24] (fun i wr => ∃ k : Nat, k ≤ n ∧ i = .int .i64 k ∧ Laid2 w wr n k) (fun i _ => n - (intOf i).toNat)
  case atStart => exact ⟨0, Nat.zero_le _, rfl, Laid2.start w n⟩
  case round =>
    obtain ⟨k, hk, rfl, hl⟩ := hrel
    by_cases hlt : k < n
    · have cp : wr.cell? ⟨w.heap.size + 1 + 1 + 1, k, none⟩ = some (.pointer none) := by rw [hl.ptrs.cell hlt]; simp
      have fp := hl.ptrs.frozen k
      have cn : wr.cell? ⟨w.heap.size + 1 + 1, k, none⟩ = some .nilIface := by rw [hl.nodes.cell hlt]; simp
      have fn := hl.nodes.frozen k
      have ct : wr.cell? ⟨w.heap.size + 1, 4, none⟩ = some (.slice (some ⟨w.heap.size + 1 + 1 + 1, 0, none⟩) n n) := by rw [cell_of_block hl.loc]; rfl
      have l1 : w.heap.size + 1 < wr.heap.size := by have := hl.size; omega
      have l2 : w.heap.size + 1 + 1 < wr.heap.size := by have := hl.size; omega
      have l3 : w.heap.size + 1 + 1 + 1 < wr.heap.size := by have := hl.size; omega
      have HS := Lib.hid (hl.step hlt)
      clear hl mk1 mk2
      go_wp2_with fail
      go_roundw
      case rel => exact ⟨k + 1, by omega, by go_num, HS.out⟩
      case measure => simp [intOf]; omega
    · obtain rfl : k = n := by omega
      have ct0 : wr.cell? ⟨w.heap.size + 1, 0, none⟩ = some (.pointer none) := by rw [cell_of_block hl.loc]; rfl
      have ct1 : wr.cell? ⟨w.heap.size + 1, 1, none⟩ = some (.pointer none) := by rw [cell_of_block hl.loc]; rfl
      have ct2 : wr.cell? ⟨w.heap.size + 1, 2, none⟩ = some (.pointer none) := by rw [cell_of_block hl.loc]; rfl
      have ct3 : wr.cell? ⟨w.heap.size + 1, 3, none⟩ = some (.pointer none) := by rw [cell_of_block hl.loc]; rfl
      have ct4 : wr.cell? ⟨w.heap.size + 1, 4, none⟩ = some (.slice (some ⟨w.heap.size + 1 + 1 + 1, 0, none⟩) k k) := by rw [cell_of_block hl.loc]; rfl
      have ct5 : wr.cell? ⟨w.heap.size + 1, 5, none⟩ = some (.pointer none) := by rw [cell_of_block hl.loc]; rfl
      have cr0 : wr.cell? ⟨w.heap.size, 0, none⟩ = some (.pointer none) := by rw [cell_of_block hl.res]; rfl
      have cr1 : wr.cell? ⟨w.heap.size, 1, none⟩ = some (.pointer none) := by rw [cell_of_block hl.res]; rfl
      have cr2 : wr.cell? ⟨w.heap.size, 2, none⟩ = some (.pointer none) := by rw [cell_of_block hl.res]; rfl
      have cr3 : wr.cell? ⟨w.heap.size, 3, none⟩ = some (.pointer none) := by rw [cell_of_block hl.res]; rfl
      have cr4 : wr.cell? ⟨w.heap.size, 4, none⟩ = some (.slice none 0 0) := by rw [cell_of_block hl.res]; rfl
      have cr5 : wr.cell? ⟨w.heap.size, 5, none⟩ = some (.pointer none) := by rw [cell_of_block hl.res]; rfl
      have fr0 := free_of_block hl.res 0
      have ft0 := free_of_block hl.loc 0
      have fr1 := free_of_block hl.res 1
      have ft1 := free_of_block hl.loc 1
      have fr2 := free_of_block hl.res 2
      have ft2 := free_of_block hl.loc 2
      have fr3 := free_of_block hl.res 3
      have ft3 := free_of_block hl.loc 3
      have fr4 := free_of_block hl.res 4
      have ft4 := free_of_block hl.loc 4
      have fr5 := free_of_block hl.res 5
      have ft5 := free_of_block hl.loc 5
      have l0 : w.heap.size < wr.heap.size := by have := hl.size; omega
      have l1 : w.heap.size + 1 < wr.heap.size := by have := hl.size; omega
      have l01 : w.heap.size < wr.heap.size + 1 := by omega
      have l11 : w.heap.size + 1 < wr.heap.size + 1 := by omega
      have l02 : w.heap.size < wr.heap.size + 1 + 1 := by omega
      have l12 : w.heap.size + 1 < wr.heap.size + 1 + 1 := by omega
      have l03 : w.heap.size < wr.heap.size + 1 + 1 + 1 := by omega
      have l13 : w.heap.size + 1 < wr.heap.size + 1 + 1 + 1 := by omega
      have l04 : w.heap.size < wr.heap.size + 1 + 1 + 1 + 1 := by omega
      have l14 : w.heap.size + 1 < wr.heap.size + 1 + 1 + 1 + 1 := by omega
      have HL := Lib.hid hl
      clear hl mk1 mk2
      go_wp2_with fail
      refine bodyPost_ret (v := .tuple #[.agg #[(.pointer (some ⟨(wr.heap.size + 1 + 1), 0, none⟩)), .pointer none, .pointer none, (.pointer (some ⟨wr.heap.size, 0, none⟩)), (.slice (some ⟨w.heap.size + 1 + 1 + 1, 0, none⟩) k k), (.pointer (some ⟨(wr.heap.size + 1), 0, none⟩))], (.iface 89 (.pointer (some ⟨(wr.heap.size + 1 + 1), 0, none⟩)))]) (by simp [results, Tryz.results20, go_sem, l0, l01, l02, cr0, cr1, cr2, cr3, cr4, cr5]) rfl ?_
      have hs := HL.out.size
      refine ⟨(wr.heap.size + 1 + 1), 0, 0, wr.heap.size, (wr.heap.size + 1), w.heap.size + 1 + 1 + 1, w.heap.size + 1 + 1, w.heap.size + 4, rfl, FF.of HL.out (((((((((((((Wr.refl _ _).set (by simp) _).set (by simp) _).set (by simp) _).set (by simp) _).set (by simp) _).set (by simp) _).set (by simp) _).set (by simp) _).set (by simp) _).alloc _).alloc _).alloc _) ?_ ?_⟩
      · show _ = _; rw [alloc_old _ (by simp only [alloc_size, set_size]; omega)]; rw [alloc_old _ (by simp only [alloc_size, set_size]; omega)]; exact alloc_new' (by simp only [set_size])
      · refine ⟨?_, trivial⟩
        · show _ = _; exact alloc_new' (by simp only [alloc_size, set_size])
set_option maxRecDepth 100000 in
set_option maxHeartbeats 4000000 in
theorem ff_memnum_id (n : Nat) (hn : n ≤ 4096) (on inn : ByteArray) (m : Nat) (_hm : m ≤ 4096) (pv : Int) (opt : Bool) (wm : Bool) (w : World) :
    Calls Tryz.prog 20 #[.int .i64 0, .string on, .int .i64 m, .int .i64 1, .int .i64 pv, .bool opt, .int .i64 1, .string inn, .int .i64 n, .bool wm] w (FFPost w .mem .num on m pv opt false wm inn n) := by
  have mk1 := run_make_row' (P := Tryz.prog) 78 39 _ _ Tryz.underlying78 infoPInt rfl .i64 .i64 n (by omega) (by omega)
  have mk2 := run_make_row' (P := Tryz.prog) 62 59 _ _ Tryz.underlying62 infoNode rfl .i64 .i64 n (by omega) (by omega)
  go_enter Tryz.func20, Tryz.ntmps20
  go_wp2_with fail
  go_loopw [24] (fun i wr => ∃ k : Nat, k ≤ n ∧ i = .int .i64 k ∧ Laid2 w wr n k) (fun i _ => n - (intOf i).toNat)
  case atStart => exact ⟨0, Nat.zero_le _, rfl, Laid2.start w n⟩
  case round =>
    obtain ⟨k, hk, rfl, hl⟩ := hrel
    by_cases hlt : k < n
    · have cp : wr.cell? ⟨w.heap.size + 1 + 1 + 1, k, none⟩ = some (.pointer none) := by rw [hl.ptrs.cell hlt]; simp
      have fp := hl.ptrs.frozen k
      have cn : wr.cell? ⟨w.heap.size + 1 + 1, k, none⟩ = some .nilIface := by rw [hl.nodes.cell hlt]; simp
      have fn := hl.nodes.frozen k
      have ct : wr.cell? ⟨w.heap.size + 1, 4, none⟩ = some (.slice (some ⟨w.heap.size + 1 + 1 + 1, 0, none⟩) n n) := by rw [cell_of_block hl.loc]; rfl
      have l1 : w.heap.size + 1 < wr.heap.size := by have := hl.size; omega
      have l2 : w.heap.size + 1 + 1 < wr.heap.size := by have := hl.size; omega
      have l3 : w.heap.size + 1 + 1 + 1 < wr.heap.size := by have := hl.size; omega
      have HS := Lib.hid (hl.step hlt)
      clear hl mk1 mk2
      go_wp2_with fail
      go_roundw
      case rel => exact ⟨k + 1, by omega, by go_num, HS.out⟩
      case measure => simp [intOf]; omega
    · obtain rfl : k = n := by omega
      have ct0 : wr.cell? ⟨w.heap.size + 1, 0, none⟩ = some (.pointer none) := by rw [cell_of_block hl.loc]; rfl
      have ct1 : wr.cell? ⟨w.heap.size + 1, 1, none⟩ = some (.pointer none) := by rw [cell_of_block hl.loc]; rfl
      have ct2 : wr.cell? ⟨w.heap.size + 1, 2, none⟩ = some (.pointer none) := by rw [cell_of_block hl.loc]; rfl
      have ct3 : wr.cell? ⟨w.heap.size + 1, 3, none⟩ = some (.pointer none) := by rw [cell_of_block hl.loc]; rfl
      have ct4 : wr.cell? ⟨w.heap.size + 1, 4, none⟩ = some (.slice (some ⟨w.heap.size + 1 + 1 + 1, 0, none⟩) k k) := by rw [cell_of_block hl.loc]; rfl
      have ct5 : wr.cell? ⟨w.heap.size + 1, 5, none⟩ = some (.pointer none) := by rw [cell_of_block hl.loc]; rfl
      have cr0 : wr.cell? ⟨w.heap.size, 0, none⟩ = some (.pointer none) := by rw [cell_of_block hl.res]; rfl
      have cr1 : wr.cell? ⟨w.heap.size, 1, none⟩ = some (.pointer none) := by rw [cell_of_block hl.res]; rfl
      have cr2 : wr.cell? ⟨w.heap.size, 2, none⟩ = some (.pointer none) := by rw [cell_of_block hl.res]; rfl
      have cr3 : wr.cell? ⟨w.heap.size, 3, none⟩ = some (.pointer none) := by rw [cell_of_block hl.res]; rfl
      have cr4 : wr.cell? ⟨w.heap.size, 4, none⟩ = some (.slice none 0 0) := by rw [cell_of_block hl.res]; rfl
      have cr5 : wr.cell? ⟨w.heap.size, 5, none⟩ = some (.pointer none) := by rw [cell_of_block hl.res]; rfl
      have fr0 := free_of_block hl.res 0
      have ft0 := free_of_block hl.loc 0
      have fr1 := free_of_block hl.res 1
      have ft1 := free_of_block hl.loc 1
      have fr2 := free_of_block hl.res 2
      have ft2 := free_of_block hl.loc 2
      have fr3 := free_of_block hl.res 3
      have ft3 := free_of_block hl.loc 3
      have fr4 := free_of_block hl.res 4
      have ft4 := free_of_block hl.loc 4
      have fr5 := free_of_block hl.res 5
      have ft5 := free_of_block hl.loc 5
      have l0 : w.heap.size < wr.heap.size := by have := hl.size; omega
      have l1 : w.heap.size + 1 < wr.heap.size := by have := hl.size; omega
      have l01 : w.heap.size < wr.heap.size + 1 := by omega
      have l11 : w.heap.size + 1 < wr.heap.size + 1 := by omega
      have l02 : w.heap.size < wr.heap.size + 1 + 1 := by omega
      have l12 : w.heap.size + 1 < wr.heap.size + 1 + 1 := by omega
      have l03 : w.heap.size < wr.heap.size + 1 + 1 + 1 := by omega
      have l13 : w.heap.size + 1 < wr.heap.size + 1 + 1 + 1 := by omega
      have l04 : w.heap.size < wr.heap.size + 1 + 1 + 1 + 1 := by omega
      have l14 : w.heap.size + 1 < wr.heap.size + 1 + 1 + 1 + 1 := by omega
      have HL := Lib.hid hl
      clear hl mk1 mk2
      go_wp2_with fail
      refine bodyPost_ret (v := .tuple #[.agg #[(.pointer (some ⟨(wr.heap.size + 1), 0, none⟩)), .pointer none, .pointer none, .pointer none, (.slice (some ⟨w.heap.size + 1 + 1 + 1, 0, none⟩) k k), .pointer none], (.iface 89 (.pointer (some ⟨(wr.heap.size + 1), 0, none⟩)))]) (by simp [results, Tryz.results20, go_sem, l0, l01, l02, cr0, cr1, cr2, cr3, cr4, cr5]) rfl ?_
      have hs := HL.out.size
      refine ⟨(wr.heap.size + 1), (wr.heap.size + 1 + 1), 0, wr.heap.size, 0, w.heap.size + 1 + 1 + 1, w.heap.size + 1 + 1, w.heap.size + 4, rfl, FF.of HL.out (((((((((((Wr.refl _ _).set (by simp) _).set (by simp) _).set (by simp) _).set (by simp) _).set (by simp) _).set (by simp) _).set (by simp) _).alloc _).alloc _).alloc _) ?_ ?_⟩
      · show _ = _; rw [alloc_old _ (by simp only [alloc_size, set_size]; omega)]; rw [alloc_old _ (by simp only [alloc_size, set_size]; omega)]; exact alloc_new' (by simp only [set_size])
      · refine ⟨?_, by show _ = _; exact alloc_new' (by simp only [alloc_size, set_size])⟩
        · show _ = _; rw [alloc_old _ (by simp only [alloc_size, set_size]; omega)]; exact alloc_new' (by simp only [alloc_size, set_size])
set_option maxRecDepth 100000 in
set_option maxHeartbeats 4000000 in
theorem ff_memnum_bn (n : Nat) (hn : n ≤ 4096) (on inn : ByteArray) (m : Nat) (_hm : m ≤ 4096) (pv : Int) (opt : Bool) (w : World) :
    Calls Tryz.prog 20 #[.int .i64 0, .string on, .int .i64 m, .int .i64 1, .int .i64 pv, .bool opt, .int .i64 0, .string inn, .int .i64 n, .bool false] w (FFPost w .mem .num on m pv opt true false inn n) := by
  have mk1 := run_make_row' (P := Tryz.prog) 78 39 _ _ Tryz.underlying78 infoPInt rfl .i64 .i64 n (by omega) (by omega)
  have mk2 := run_make_row' (P := Tryz.prog) 62 59 _ _ Tryz.underlying62 infoNode rfl .i64 .i64 n (by omega) (by omega)
  go_enter Tryz.func20, Tryz.ntmps20
  go_wp2_with fail
  go_loopw [24] (fun i wr => ∃ k : Nat, k ≤ n ∧ i = .int .i64 k ∧ Laid2 w wr n k) (fun i _ => n - (intOf i).toNat)
  case atStart => exact ⟨0, Nat.zero_le _, rfl, Laid2.start w n⟩
  case round =>
    obtain ⟨k, hk, rfl, hl⟩ := hrel
    by_cases hlt : k < n
    · have cp : wr.cell? ⟨w.heap.size + 1 + 1 + 1, k, none⟩ = some (.pointer none) := by rw [hl.ptrs.cell hlt]; simp
      have fp := hl.ptrs.frozen k
      have cn : wr.cell? ⟨w.heap.size + 1 + 1, k, none⟩ = some .nilIface := by rw [hl.nodes.cell hlt]; simp
      have fn := hl.nodes.frozen k
      have ct : wr.cell? ⟨w.heap.size + 1, 4, none⟩ = some (.slice (some ⟨w.heap.size + 1 + 1 + 1, 0, none⟩) n n) := by rw [cell_of_block hl.loc]; rfl
      have l1 : w.heap.size + 1 < wr.heap.size := by have := hl.size; omega
      have l2 : w.heap.size + 1 + 1 < wr.heap.size := by have := hl.size; omega
      have l3 : w.heap.size + 1 + 1 + 1 < wr.heap.size := by have := hl.size; omega
      have HS := Lib.hid (hl.step hlt)
      clear hl mk1 mk2
      go_wp2_with fail
      go_roundw
      case rel => exact ⟨k + 1, by omega, by go_num, HS.out⟩
      case measure => simp [intOf]; omega
    · obtain rfl : k = n := by omega
      have ct0 : wr.cell? ⟨w.heap.size + 1, 0, none⟩ = some (.pointer none) := by rw [cell_of_block hl.loc]; rfl
      have ct1 : wr.cell? ⟨w.heap.size + 1, 1, none⟩ = some (.pointer none) := by rw [cell_of_block hl.loc]; rfl
      have ct2 : wr.cell? ⟨w.heap.size + 1, 2, none⟩ = some (.pointer none) := by rw [cell_of_block hl.loc]; rfl
      have ct3 : wr.cell? ⟨w.heap.size + 1, 3, none⟩ = some (.pointer none) := by rw [cell_of_block hl.loc]; rfl
      have ct4 : wr.cell? ⟨w.heap.size + 1, 4, none⟩ = some (.slice (some ⟨w.heap.size + 1 + 1 + 1, 0, none⟩) k k) := by rw [cell_of_block hl.loc]; rfl
      have ct5 : wr.cell? ⟨w.heap.size + 1, 5, none⟩ = some (.pointer none) := by rw [cell_of_block hl.loc]; rfl
      have cr0 : wr.cell? ⟨w.heap.size, 0, none⟩ = some (.pointer none) := by rw [cell_of_block hl.res]; rfl
      have cr1 : wr.cell? ⟨w.heap.size, 1, none⟩ = some (.pointer none) := by rw [cell_of_block hl.res]; rfl
      have cr2 : wr.cell? ⟨w.heap.size, 2, none⟩ = some (.pointer none) := by rw [cell_of_block hl.res]; rfl
      have cr3 : wr.cell? ⟨w.heap.size, 3, none⟩ = some (.pointer none) := by rw [cell_of_block hl.res]; rfl
      have cr4 : wr.cell? ⟨w.heap.size, 4, none⟩ = some (.slice none 0 0) := by rw [cell_of_block hl.res]; rfl
      have cr5 : wr.cell? ⟨w.heap.size, 5, none⟩ = some (.pointer none) := by rw [cell_of_block hl.res]; rfl
      have fr0 := free_of_block hl.res 0
      have ft0 := free_of_block hl.loc 0
      have fr1 := free_of_block hl.res 1
      have ft1 := free_of_block hl.loc 1
      have fr2 := free_of_block hl.res 2
      have ft2 := free_of_block hl.loc 2
      have fr3 := free_of_block hl.res 3
      have ft3 := free_of_block hl.loc 3
      have fr4 := free_of_block hl.res 4
      have ft4 := free_of_block hl.loc 4
      have fr5 := free_of_block hl.res 5
      have ft5 := free_of_block hl.loc 5
      have l0 : w.heap.size < wr.heap.size := by have := hl.size; omega
      have l1 : w.heap.size + 1 < wr.heap.size := by have := hl.size; omega
      have l01 : w.heap.size < wr.heap.size + 1 := by omega
      have l11 : w.heap.size + 1 < wr.heap.size + 1 := by omega
      have l02 : w.heap.size < wr.heap.size + 1 + 1 := by omega
      have l12 : w.heap.size + 1 < wr.heap.size + 1 + 1 := by omega
      have l03 : w.heap.size < wr.heap.size + 1 + 1 + 1 := by omega
      have l13 : w.heap.size + 1 < wr.heap.size + 1 + 1 + 1 := by omega
      have l04 : w.heap.size < wr.heap.size + 1 + 1 + 1 + 1 := by omega
      have l14 : w.heap.size + 1 < wr.heap.size + 1 + 1 + 1 + 1 := by omega
      have HL := Lib.hid hl
      clear hl mk1 mk2
      go_wp2_with fail
      refine bodyPost_ret (v := .tuple #[.agg #[(.pointer (some ⟨(wr.heap.size + 1), 0, none⟩)), .pointer none, .pointer none, (.pointer (some ⟨wr.heap.size, 0, none⟩)), (.slice (some ⟨w.heap.size + 1 + 1 + 1, 0, none⟩) k k), .pointer none], (.iface 89 (.pointer (some ⟨(wr.heap.size + 1), 0, none⟩)))]) (by simp [results, Tryz.results20, go_sem, l0, l01, l02, cr0, cr1, cr2, cr3, cr4, cr5]) rfl ?_
      have hs := HL.out.size
      refine ⟨(wr.heap.size + 1), (wr.heap.size + 1 + 1), 0, wr.heap.size, 0, w.heap.size + 1 + 1 + 1, w.heap.size + 1 + 1, w.heap.size + 4, rfl, FF.of HL.out ((((((((((((Wr.refl _ _).set (by simp) _).set (by simp) _).set (by simp) _).set (by simp) _).set (by simp) _).set (by simp) _).set (by simp) _).set (by simp) _).alloc _).alloc _).alloc _) ?_ ?_⟩
      · show _ = _; rw [alloc_old _ (by simp only [alloc_size, set_size]; omega)]; rw [alloc_old _ (by simp only [alloc_size, set_size]; omega)]; exact alloc_new' (by simp only [set_size])
      · refine ⟨?_, by show _ = _; exact alloc_new' (by simp only [alloc_size, set_size])⟩
        · show _ = _; rw [alloc_old _ (by simp only [alloc_size, set_size]; omega)]; exact alloc_new' (by simp only [alloc_size, set_size])
set_option maxRecDepth 100000 in
set_option maxHeartbeats 4000000 in
theorem ff_memnum_bm (n : Nat) (hn : n ≤ 4096) (on inn : ByteArray) (m : Nat) (_hm : m ≤ 4096) (pv : Int) (opt : Bool) (w : World) :
    Calls Tryz.prog 20 #[.int .i64 0, .string on, .int .i64 m, .int .i64 1, .int .i64 pv, .bool opt, .int .i64 0, .string inn, .int .i64 n, .bool true] w (FFPost w .mem .num on m pv opt true true inn n) := by
  have mk1 := run_make_row' (P := Tryz.prog) 78 39 _ _ Tryz.underlying78 infoPInt rfl .i64 .i64 n (by omega) (by omega)
  have mk2 := run_make_row' (P := Tryz.prog) 62 59 _ _ Tryz.underlying62 infoNode rfl .i64 .i64 n (by omega) (by omega)
  go_enter Tryz.func20, Tryz.ntmps20
  go_wp2_with fail
  go_loopw [24] (fun i wr => ∃ k : Nat, k ≤ n ∧ i = .int .i64 k ∧ Laid2 w wr n k) (fun i _ => n - (intOf i).toNat)
  case atStart => exact ⟨0, Nat.zero_le _, rfl, Laid2.start w n⟩
  case round =>
    obtain ⟨k, hk, rfl, hl⟩ := hrel
    by_cases hlt : k < n
    · have cp : wr.cell? ⟨w.heap.size + 1 + 1 + 1, k, none⟩ = some (.pointer none) := by rw [hl.ptrs.cell hlt]; simp
      have fp := hl.ptrs.frozen k
      have cn : wr.cell? ⟨w.heap.size + 1 + 1, k, none⟩ = some .nilIface := by rw [hl.nodes.cell hlt]; simp
      have fn := hl.nodes.frozen k
      have ct : wr.cell? ⟨w.heap.size + 1, 4, none⟩ = some (.slice (some ⟨w.heap.size + 1 + 1 + 1, 0, none⟩) n n) := by rw [cell_of_block hl.loc]; rfl
      have l1 : w.heap.size + 1 < wr.heap.size := by have := hl.size; omega
      have l2 : w.heap.size + 1 + 1 < wr.heap.size := by have := hl.size; omega
      have l3 : w.heap.size + 1 + 1 + 1 < wr.heap.size := by have := hl.size; omega
      have HS := Lib.hid (hl.step hlt)
      clear hl mk1 mk2
      go_wp2_with fail
      go_roundw
      case rel => exact ⟨k + 1, by omega, by go_num, HS.out⟩
      case measure => simp [intOf]; omega
    · obtain rfl : k = n := by omega
      have ct0 : wr.cell? ⟨w.heap.size + 1, 0, none⟩ = some (.pointer none) := by rw [cell_of_block hl.loc]; rfl
      have ct1 : wr.cell? ⟨w.heap.size + 1, 1, none⟩ = some (.pointer none) := by rw [cell_of_block hl.loc]; rfl
      have ct2 : wr.cell? ⟨w.heap.size + 1, 2, none⟩ = some (.pointer none) := by rw [cell_of_block hl.loc]; rfl
      have ct3 : wr.cell? ⟨w.heap.size + 1, 3, none⟩ = some (.pointer none) := by rw [cell_of_block hl.loc]; rfl
      have ct4 : wr.cell? ⟨w.heap.size + 1, 4, none⟩ = some (.slice (some ⟨w.heap.size + 1 + 1 + 1, 0, none⟩) k k) := by rw [cell_of_block hl.loc]; rfl
      have ct5 : wr.cell? ⟨w.heap.size + 1, 5, none⟩ = some (.pointer none) := by rw [cell_of_block hl.loc]; rfl
      have cr0 : wr.cell? ⟨w.heap.size, 0, none⟩ = some (.pointer none) := by rw [cell_of_block hl.res]; rfl
      have cr1 : wr.cell? ⟨w.heap.size, 1, none⟩ = some (.pointer none) := by rw [cell_of_block hl.res]; rfl
      have cr2 : wr.cell? ⟨w.heap.size, 2, none⟩ = some (.pointer none) := by rw [cell_of_block hl.res]; rfl
      have cr3 : wr.cell? ⟨w.heap.size, 3, none⟩ = some (.pointer none) := by rw [cell_of_block hl.res]; rfl
      have cr4 : wr.cell? ⟨w.heap.size, 4, none⟩ = some (.slice none 0 0) := by rw [cell_of_block hl.res]; rfl
      have cr5 : wr.cell? ⟨w.heap.size, 5, none⟩ = some (.pointer none) := by rw [cell_of_block hl.res]; rfl
      have fr0 := free_of_block hl.res 0
      have ft0 := free_of_block hl.loc 0
      have fr1 := free_of_block hl.res 1
      have ft1 := free_of_block hl.loc 1
      have fr2 := free_of_block hl.res 2
      have ft2 := free_of_block hl.loc 2
      have fr3 := free_of_block hl.res 3
      have ft3 := free_of_block hl.loc 3
      have fr4 := free_of_block hl.res 4
      have ft4 := free_of_block hl.loc 4
      have fr5 := free_of_block hl.res 5
      have ft5 := free_of_block hl.loc 5
      have l0 : w.heap.size < wr.heap.size := by have := hl.size; omega
      have l1 : w.heap.size + 1 < wr.heap.size := by have := hl.size; omega
      have l01 : w.heap.size < wr.heap.size + 1 := by omega
      have l11 : w.heap.size + 1 < wr.heap.size + 1 := by omega
      have l02 : w.heap.size < wr.heap.size + 1 + 1 := by omega
      have l12 : w.heap.size + 1 < wr.heap.size + 1 + 1 := by omega
      have l03 : w.heap.size < wr.heap.size + 1 + 1 + 1 := by omega
      have l13 : w.heap.size + 1 < wr.heap.size + 1 + 1 + 1 := by omega
      have l04 : w.heap.size < wr.heap.size + 1 + 1 + 1 + 1 := by omega
      have l14 : w.heap.size + 1 < wr.heap.size + 1 + 1 + 1 + 1 := by omega
      have HL := Lib.hid hl
      clear hl mk1 mk2
      go_wp2_with fail
      refine bodyPost_ret (v := .tuple #[.agg #[(.pointer (some ⟨(wr.heap.size + 1 + 1), 0, none⟩)), .pointer none, .pointer none, (.pointer (some ⟨wr.heap.size, 0, none⟩)), (.slice (some ⟨w.heap.size + 1 + 1 + 1, 0, none⟩) k k), (.pointer (some ⟨(wr.heap.size + 1), 0, none⟩))], (.iface 89 (.pointer (some ⟨(wr.heap.size + 1 + 1), 0, none⟩)))]) (by simp [results, Tryz.results20, go_sem, l0, l01, l02, l03, cr0, cr1, cr2, cr3, cr4, cr5]) rfl ?_
      have hs := HL.out.size
      refine ⟨(wr.heap.size + 1 + 1), (wr.heap.size + 1 + 1 + 1), 0, wr.heap.size, (wr.heap.size + 1), w.heap.size + 1 + 1 + 1, w.heap.size + 1 + 1, w.heap.size + 4, rfl, FF.of HL.out ((((((((((((((Wr.refl _ _).set (by simp) _).set (by simp) _).set (by simp) _).set (by simp) _).set (by simp) _).set (by simp) _).set (by simp) _).set (by simp) _).set (by simp) _).alloc _).alloc _).alloc _).alloc _) ?_ ?_⟩
      · show _ = _; rw [alloc_old _ (by simp only [alloc_size, set_size]; omega)]; rw [alloc_old _ (by simp only [alloc_size, set_size]; omega)]; rw [alloc_old _ (by simp only [alloc_size, set_size]; omega)]; exact alloc_new' (by simp only [set_size])
      · refine ⟨?_, by show _ = _; exact alloc_new' (by simp only [alloc_size, set_size])⟩
        · show _ = _; rw [alloc_old _ (by simp only [alloc_size, set_size]; omega)]; exact alloc_new' (by simp only [alloc_size, set_size])
set_option maxRecDepth 100000 in
set_option maxHeartbeats 4000000 in
theorem ff_memstr_id (n : Nat) (hn : n ≤ 4096) (on inn : ByteArray) (m : Nat) (_hm : m ≤ 4096) (pv : Int) (opt : Bool) (wm : Bool) (w : World) :
    Calls Tryz.prog 20 #[.int .i64 0, .string on, .int .i64 m, .int .i64 2, .int .i64 pv, .bool opt, .int .i64 1, .string inn, .int .i64 n, .bool wm] w (FFPost w .mem .str on m pv opt false wm inn n) := by
  have mk1 := run_make_row' (P := Tryz.prog) 78 39 _ _ Tryz.underlying78 infoPInt rfl .i64 .i64 n (by omega) (by omega)
  have mk2 := run_make_row' (P := Tryz.prog) 62 59 _ _ Tryz.underlying62 infoNode rfl .i64 .i64 n (by omega) (by omega)
  go_enter Tryz.func20, Tryz.ntmps20
  go_wp2_with fail
  go_loopw [24] (fun i wr => ∃ k : Nat, k ≤ n ∧ i = .int .i64 k ∧ Laid2 w wr n k) (fun i _ => n - (intOf i).toNat)
  case atStart => exact ⟨0, Nat.zero_le _, rfl, Laid2.start w n⟩
  case round =>
    obtain ⟨k, hk, rfl, hl⟩ := hrel
    by_cases hlt : k < n
    · have cp : wr.cell? ⟨w.heap.size + 1 + 1 + 1, k, none⟩ = some (.pointer none) := by rw [hl.ptrs.cell hlt]; simp
      have fp := hl.ptrs.frozen k
      have cn : wr.cell? ⟨w.heap.size + 1 + 1, k, none⟩ = some .nilIface := by rw [hl.nodes.cell hlt]; simp
      have fn := hl.nodes.frozen k
      have ct : wr.cell? ⟨w.heap.size + 1, 4, none⟩ = some (.slice (some ⟨w.heap.size + 1 + 1 + 1, 0, none⟩) n n) := by rw [cell_of_block hl.loc]; rfl
      have l1 : w.heap.size + 1 < wr.heap.size := by have := hl.size; omega
      have l2 : w.heap.size + 1 + 1 < wr.heap.size := by have := hl.size; omega
      have l3 : w.heap.size + 1 + 1 + 1 < wr.heap.size := by have := hl.size; omega
      have HS := Lib.hid (hl.step hlt)
      clear hl mk1 mk2
      go_wp2_with fail
      go_roundw
      case rel => exact ⟨k + 1, by omega, by go_num, HS.out⟩
      case measure => simp [intOf]; omega
    · obtain rfl : k = n := by omega
      have ct0 : wr.cell? ⟨w.heap.size + 1, 0, none⟩ = some (.pointer none) := by rw [cell_of_block hl.loc]; rfl
      have ct1 : wr.cell? ⟨w.heap.size + 1, 1, none⟩ = some (.pointer none) := by rw [cell_of_block hl.loc]; rfl
      have ct2 : wr.cell? ⟨w.heap.size + 1, 2, none⟩ = some (.pointer none) := by rw [cell_of_block hl.loc]; rfl
      have ct3 : wr.cell? ⟨w.heap.size + 1, 3, none⟩ = some (.pointer none) := by rw [cell_of_block hl.loc]; rfl
      have ct4 : wr.cell? ⟨w.heap.size + 1, 4, none⟩ = some (.slice (some ⟨w.heap.size + 1 + 1 + 1, 0, none⟩) k k) := by rw [cell_of_block hl.loc]; rfl
      have ct5 : wr.cell? ⟨w.heap.size + 1, 5, none⟩ = some (.pointer none) := by rw [cell_of_block hl.loc]; rfl
      have cr0 : wr.cell? ⟨w.heap.size, 0, none⟩ = some (.pointer none) := by rw [cell_of_block hl.res]; rfl
      have cr1 : wr.cell? ⟨w.heap.size, 1, none⟩ = some (.pointer none) := by rw [cell_of_block hl.res]; rfl
      have cr2 : wr.cell? ⟨w.heap.size, 2, none⟩ = some (.pointer none) := by rw [cell_of_block hl.res]; rfl
      have cr3 : wr.cell? ⟨w.heap.size, 3, none⟩ = some (.pointer none) := by rw [cell_of_block hl.res]; rfl
      have cr4 : wr.cell? ⟨w.heap.size, 4, none⟩ = some (.slice none 0 0) := by rw [cell_of_block hl.res]; rfl
      have cr5 : wr.cell? ⟨w.heap.size, 5, none⟩ = some (.pointer none) := by rw [cell_of_block hl.res]; rfl
      have fr0 := free_of_block hl.res 0
      have ft0 := free_of_block hl.loc 0
      have fr1 := free_of_block hl.res 1
      have ft1 := free_of_block hl.loc 1
      have fr2 := free_of_block hl.res 2
      have ft2 := free_of_block hl.loc 2
      have fr3 := free_of_block hl.res 3
      have ft3 := free_of_block hl.loc 3
      have fr4 := free_of_block hl.res 4
      have ft4 := free_of_block hl.loc 4
      have fr5 := free_of_block hl.res 5
      have ft5 := free_of_block hl.loc 5
      have l0 : w.heap.size < wr.heap.size := by have := hl.size; omega
      have l1 : w.heap.size + 1 < wr.heap.size := by have := hl.size; omega
      have l01 : w.heap.size < wr.heap.size + 1 := by omega
      have l11 : w.heap.size + 1 < wr.heap.size + 1 := by omega
      have l02 : w.heap.size < wr.heap.size + 1 + 1 := by omega
      have l12 : w.heap.size + 1 < wr.heap.size + 1 + 1 := by omega
      have l03 : w.heap.size < wr.heap.size + 1 + 1 + 1 := by omega
      have l13 : w.heap.size + 1 < wr.heap.size + 1 + 1 + 1 := by omega
      have l04 : w.heap.size < wr.heap.size + 1 + 1 + 1 + 1 := by omega
      have l14 : w.heap.size + 1 < wr.heap.size + 1 + 1 + 1 + 1 := by omega
      have HL := Lib.hid hl
      clear hl mk1 mk2
      go_wp2_with fail
      refine bodyPost_ret (v := .tuple #[.agg #[(.pointer (some ⟨(wr.heap.size + 1), 0, none⟩)), .pointer none, .pointer none, .pointer none, (.slice (some ⟨w.heap.size + 1 + 1 + 1, 0, none⟩) k k), .pointer none], (.iface 89 (.pointer (some ⟨(wr.heap.size + 1), 0, none⟩)))]) (by simp [results, Tryz.results20, go_sem, l0, l01, l02, cr0, cr1, cr2, cr3, cr4, cr5]) rfl ?_
      have hs := HL.out.size
      refine ⟨(wr.heap.size + 1), (wr.heap.size + 1 + 1), 0, wr.heap.size, 0, w.heap.size + 1 + 1 + 1, w.heap.size + 1 + 1, w.heap.size + 4, rfl, FF.of HL.out (((((((((((Wr.refl _ _).set (by simp) _).set (by simp) _).set (by simp) _).set (by simp) _).set (by simp) _).set (by simp) _).set (by simp) _).alloc _).alloc _).alloc _) ?_ ?_⟩
      · show _ = _; rw [alloc_old _ (by simp only [alloc_size, set_size]; omega)]; rw [alloc_old _ (by simp only [alloc_size, set_size]; omega)]; exact alloc_new' (by simp only [set_size])
      · refine ⟨?_, trivial⟩
        · show _ = _; rw [alloc_old _ (by simp only [alloc_size, set_size]; omega)]; exact alloc_new' (by simp only [alloc_size, set_size])
set_option maxRecDepth 100000 in
set_option maxHeartbeats 4000000 in
theorem ff_memstr_bn (n : Nat) (hn : n ≤ 4096) (on inn : ByteArray) (m : Nat) (_hm : m ≤ 4096) (pv : Int) (opt : Bool) (w : World) :
    Calls Tryz.prog 20 #[.int .i64 0, .string on, .int .i64 m, .int .i64 2, .int .i64 pv, .bool opt, .int .i64 0, .string inn, .int .i64 n, .bool false] w (FFPost w .mem .str on m pv opt true false inn n) := by
  have mk1 := run_make_row' (P := Tryz.prog) 78 39 _ _ Tryz.underlying78 infoPInt rfl .i64 .i64 n (by omega) (by omega)
  have mk2 := run_make_row' (P := Tryz.prog) 62 59 _ _ Tryz.underlying62 infoNode rfl .i64 .i64 n (by omega) (by omega)
  go_enter Tryz.func20, Tryz.ntmps20
  go_wp2_with fail
  go_loopw [24] (fun i wr => ∃ k : Nat, k ≤ n ∧ i = .int .i64 k ∧ Laid2 w wr n k) (fun i _ => n - (intOf i).toNat)
  case atStart => exact ⟨0, Nat.zero_le _, rfl, Laid2.start w n⟩
  case round =>
    obtain ⟨k, hk, rfl, hl⟩ := hrel
    by_cases hlt : k < n
    · have cp : wr.cell? ⟨w.heap.size + 1 + 1 + 1, k, none⟩ = some (.pointer none) := by rw [hl.ptrs.cell hlt]; simp
      have fp := hl.ptrs.frozen k
      have cn : wr.cell? ⟨w.heap.size + 1 + 1, k, none⟩ = some .nilIface := by rw [hl.nodes.cell hlt]; simp
      have fn := hl.nodes.frozen k
      have ct : wr.cell? ⟨w.heap.size + 1, 4, none⟩ = some (.slice (some ⟨w.heap.size + 1 + 1 + 1, 0, none⟩) n n) := by rw [cell_of_block hl.loc]; rfl
      have l1 : w.heap.size + 1 < wr.heap.size := by have := hl.size; omega
      have l2 : w.heap.size + 1 + 1 < wr.heap.size := by have := hl.size; omega
      have l3 : w.heap.size + 1 + 1 + 1 < wr.heap.size := by have := hl.size; omega
      have HS := Lib.hid (hl.step hlt)
      clear hl mk1 mk2
      go_wp2_with fail
      go_roundw
      case rel => exact ⟨k + 1, by omega, by go_num, HS.out⟩
      case measure => simp [intOf]; omega
    · obtain rfl : k = n := by omega
      have ct0 : wr.cell? ⟨w.heap.size + 1, 0, none⟩ = some (.pointer none) := by rw [cell_of_block hl.loc]; rfl
      have ct1 : wr.cell? ⟨w.heap.size + 1, 1, none⟩ = some (.pointer none) := by rw [cell_of_block hl.loc]; rfl
      have ct2 : wr.cell? ⟨w.heap.size + 1, 2, none⟩ = some (.pointer none) := by rw [cell_of_block hl.loc]; rfl
      have ct3 : wr.cell? ⟨w.heap.size + 1, 3, none⟩ = some (.pointer none) := by rw [cell_of_block hl.loc]; rfl
      have ct4 : wr.cell? ⟨w.heap.size + 1, 4, none⟩ = some (.slice (some ⟨w.heap.size + 1 + 1 + 1, 0, none⟩) k k) := by rw [cell_of_block hl.loc]; rfl
      have ct5 : wr.cell? ⟨w.heap.size + 1, 5, none⟩ = some (.pointer none) := by rw [cell_of_block hl.loc]; rfl
      have cr0 : wr.cell? ⟨w.heap.size, 0, none⟩ = some (.pointer none) := by rw [cell_of_block hl.res]; rfl
      have cr1 : wr.cell? ⟨w.heap.size, 1, none⟩ = some (.pointer none) := by rw [cell_of_block hl.res]; rfl
      have cr2 : wr.cell? ⟨w.heap.size, 2, none⟩ = some (.pointer none) := by rw [cell_of_block hl.res]; rfl
      have cr3 : wr.cell? ⟨w.heap.size, 3, none⟩ = some (.pointer none) := by rw [cell_of_block hl.res]; rfl
      have cr4 : wr.cell? ⟨w.heap.size, 4, none⟩ = some (.slice none 0 0) := by rw [cell_of_block hl.res]; rfl
      have cr5 : wr.cell? ⟨w.heap.size, 5, none⟩ = some (.pointer none) := by rw [cell_of_block hl.res]; rfl
      have fr0 := free_of_block hl.res 0
      have ft0 := free_of_block hl.loc 0
      have fr1 := free_of_block hl.res 1
      have ft1 := free_of_block hl.loc 1
      have fr2 := free_of_block hl.res 2
      have ft2 := free_of_block hl.loc 2
      have fr3 := free_of_block hl.res 3
      have ft3 := free_of_block hl.loc 3
      have fr4 := free_of_block hl.res 4
      have ft4 := free_of_block hl.loc 4
      have fr5 := free_of_block hl.res 5
      have ft5 := free_of_block hl.loc 5
      have l0 : w.heap.size < wr.heap.size := by have := hl.size; omega
      have l1 : w.heap.size + 1 < wr.heap.size := by have := hl.size; omega
      have l01 : w.heap.size < wr.heap.size + 1 := by omega
      have l11 : w.heap.size + 1 < wr.heap.size + 1 := by omega
      have l02 : w.heap.size < wr.heap.size + 1 + 1 := by omega
      have l12 : w.heap.size + 1 < wr.heap.size + 1 + 1 := by omega
      have l03 : w.heap.size < wr.heap.size + 1 + 1 + 1 := by omega
      have l13 : w.heap.size + 1 < wr.heap.size + 1 + 1 + 1 := by omega
      have l04 : w.heap.size < wr.heap.size + 1 + 1 + 1 + 1 := by omega
      have l14 : w.heap.size + 1 < wr.heap.size + 1 + 1 + 1 + 1 := by omega
      have HL := Lib.hid hl
      clear hl mk1 mk2
      go_wp2_with fail
      refine bodyPost_ret (v := .tuple #[.agg #[(.pointer (some ⟨(wr.heap.size + 1), 0, none⟩)), .pointer none, .pointer none, (.pointer (some ⟨wr.heap.size, 0, none⟩)), (.slice (some ⟨w.heap.size + 1 + 1 + 1, 0, none⟩) k k), .pointer none], (.iface 89 (.pointer (some ⟨(wr.heap.size + 1), 0, none⟩)))]) (by simp [results, Tryz.results20, go_sem, l0, l01, l02, cr0, cr1, cr2, cr3, cr4, cr5]) rfl ?_
      have hs := HL.out.size
      refine ⟨(wr.heap.size + 1), (wr.heap.size + 1 + 1), 0, wr.heap.size, 0, w.heap.size + 1 + 1 + 1, w.heap.size + 1 + 1, w.heap.size + 4, rfl, FF.of HL.out ((((((((((((Wr.refl _ _).set (by simp) _).set (by simp) _).set (by simp) _).set (by simp) _).set (by simp) _).set (by simp) _).set (by simp) _).set (by simp) _).alloc _).alloc _).alloc _) ?_ ?_⟩
      · show _ = _; rw [alloc_old _ (by simp only [alloc_size, set_size]; omega)]; rw [alloc_old _ (by simp only [alloc_size, set_size]; omega)]; exact alloc_new' (by simp only [set_size])
      · refine ⟨?_, trivial⟩
        · show _ = _; rw [alloc_old _ (by simp only [alloc_size, set_size]; omega)]; exact alloc_new' (by simp only [alloc_size, set_size])
set_option maxRecDepth 100000 in
set_option maxHeartbeats 4000000 in
theorem ff_memstr_bm (n : Nat) (hn : n ≤ 4096) (on inn : ByteArray) (m : Nat) (_hm : m ≤ 4096) (pv : Int) (opt : Bool) (w : World) :
    Calls Tryz.prog 20 #[.int .i64 0, .string on, .int .i64 m, .int .i64 2, .int .i64 pv, .bool opt, .int .i64 0, .string inn, .int .i64 n, .bool true] w (FFPost w .mem .str on m pv opt true true inn n) := by
  have mk1 := run_make_row' (P := Tryz.prog) 78 39 _ _ Tryz.underlying78 infoPInt rfl .i64 .i64 n (by omega) (by omega)
  have mk2 := run_make_row' (P := Tryz.prog) 62 59 _ _ Tryz.underlying62 infoNode rfl .i64 .i64 n (by omega) (by omega)
  go_enter Tryz.func20, Tryz.ntmps20
  go_wp2_with fail
  go_loopw [24] (fun i wr => ∃ k : Nat, k ≤ n ∧ i = .int .i64 k ∧ Laid2 w wr n k) (fun i _ => n - (intOf i).toNat)
  case atStart => exact ⟨0, Nat.zero_le _, rfl, Laid2.start w n⟩
  case round =>
    obtain ⟨k, hk, rfl, hl⟩ := hrel
    by_cases hlt : k < n
    · have cp : wr.cell? ⟨w.heap.size + 1 + 1 + 1, k, none⟩ = some (.pointer none) := by rw [hl.ptrs.cell hlt]; simp
      have fp := hl.ptrs.frozen k
      have cn : wr.cell? ⟨w.heap.size + 1 + 1, k, none⟩ = some .nilIface := by rw [hl.nodes.cell hlt]; simp
      have fn := hl.nodes.frozen k
      have ct : wr.cell? ⟨w.heap.size + 1, 4, none⟩ = some (.slice (some ⟨w.heap.size + 1 + 1 + 1, 0, none⟩) n n) := by rw [cell_of_block hl.loc]; rfl
      have l1 : w.heap.size + 1 < wr.heap.size := by have := hl.size; omega
      have l2 : w.heap.size + 1 + 1 < wr.heap.size := by have := hl.size; omega
      have l3 : w.heap.size + 1 + 1 + 1 < wr.heap.size := by have := hl.size; omega
      have HS := Lib.hid (hl.step hlt)
      clear hl mk1 mk2
      go_wp2_with fail
      go_roundw
      case rel => exact ⟨k + 1, by omega, by go_num, HS.out⟩
      case measure => simp [intOf]; omega
    · obtain rfl : k = n := by omega
      have ct0 : wr.cell? ⟨w.heap.size + 1, 0, none⟩ = some (.pointer none) := by rw [cell_of_block hl.loc]; rfl
      have ct1 : wr.cell? ⟨w.heap.size + 1, 1, none⟩ = some (.pointer none) := by rw [cell_of_block hl.loc]; rfl
      have ct2 : wr.cell? ⟨w.heap.size + 1, 2, none⟩ = some (.pointer none) := by rw [cell_of_block hl.loc]; rfl
      have ct3 : wr.cell? ⟨w.heap.size + 1, 3, none⟩ = some (.pointer none) := by rw [cell_of_block hl.loc]; rfl
      have ct4 : wr.cell? ⟨w.heap.size + 1, 4, none⟩ = some (.slice (some ⟨w.heap.size + 1 + 1 + 1, 0, none⟩) k k) := by rw [cell_of_block hl.loc]; rfl
      have ct5 : wr.cell? ⟨w.heap.size + 1, 5, none⟩ = some (.pointer none) := by rw [cell_of_block hl.loc]; rfl
      have cr0 : wr.cell? ⟨w.heap.size, 0, none⟩ = some (.pointer none) := by rw [cell_of_block hl.res]; rfl
      have cr1 : wr.cell? ⟨w.heap.size, 1, none⟩ = some (.pointer none) := by rw [cell_of_block hl.res]; rfl
      have cr2 : wr.cell? ⟨w.heap.size, 2, none⟩ = some (.pointer none) := by rw [cell_of_block hl.res]; rfl
      have cr3 : wr.cell? ⟨w.heap.size, 3, none⟩ = some (.pointer none) := by rw [cell_of_block hl.res]; rfl
      have cr4 : wr.cell? ⟨w.heap.size, 4, none⟩ = some (.slice none 0 0) := by rw [cell_of_block hl.res]; rfl
      have cr5 : wr.cell? ⟨w.heap.size, 5, none⟩ = some (.pointer none) := by rw [cell_of_block hl.res]; rfl
      have fr0 := free_of_block hl.res 0
      have ft0 := free_of_block hl.loc 0
      have fr1 := free_of_block hl.res 1
      have ft1 := free_of_block hl.loc 1
      have fr2 := free_of_block hl.res 2
      have ft2 := free_of_block hl.loc 2
      have fr3 := free_of_block hl.res 3
      have ft3 := free_of_block hl.loc 3
      have fr4 := free_of_block hl.res 4
      have ft4 := free_of_block hl.loc 4
      have fr5 := free_of_block hl.res 5
      have ft5 := free_of_block hl.loc 5
      have l0 : w.heap.size < wr.heap.size := by have := hl.size; omega
      have l1 : w.heap.size + 1 < wr.heap.size := by have := hl.size; omega
      have l01 : w.heap.size < wr.heap.size + 1 := by omega
      have l11 : w.heap.size + 1 < wr.heap.size + 1 := by omega
      have l02 : w.heap.size < wr.heap.size + 1 + 1 := by omega
      have l12 : w.heap.size + 1 < wr.heap.size + 1 + 1 := by omega
      have l03 : w.heap.size < wr.heap.size + 1 + 1 + 1 := by omega
      have l13 : w.heap.size + 1 < wr.heap.size + 1 + 1 + 1 := by omega
      have l04 : w.heap.size < wr.heap.size + 1 + 1 + 1 + 1 := by omega
      have l14 : w.heap.size + 1 < wr.heap.size + 1 + 1 + 1 + 1 := by omega
      have HL := Lib.hid hl
      clear hl mk1 mk2
      go_wp2_with fail
      refine bodyPost_ret (v := .tuple #[.agg #[(.pointer (some ⟨(wr.heap.size + 1 + 1), 0, none⟩)), .pointer none, .pointer none, (.pointer (some ⟨wr.heap.size, 0, none⟩)), (.slice (some ⟨w.heap.size + 1 + 1 + 1, 0, none⟩) k k), (.pointer (some ⟨(wr.heap.size + 1), 0, none⟩))], (.iface 89 (.pointer (some ⟨(wr.heap.size + 1 + 1), 0, none⟩)))]) (by simp [results, Tryz.results20, go_sem, l0, l01, l02, l03, cr0, cr1, cr2, cr3, cr4, cr5]) rfl ?_
      have hs := HL.out.size
      refine ⟨(wr.heap.size + 1 + 1), (wr.heap.size + 1 + 1 + 1), 0, wr.heap.size, (wr.heap.size + 1), w.heap.size + 1 + 1 + 1, w.heap.size + 1 + 1, w.heap.size + 4, rfl, FF.of HL.out ((((((((((((((Wr.refl _ _).set (by simp) _).set (by simp) _).set (by simp) _).set (by simp) _).set (by simp) _).set (by simp) _).set (by simp) _).set (by simp) _).set (by simp) _).alloc _).alloc _).alloc _).alloc _) ?_ ?_⟩
      · show _ = _; rw [alloc_old _ (by simp only [alloc_size, set_size]; omega)]; rw [alloc_old _ (by simp only [alloc_size, set_size]; omega)]; rw [alloc_old _ (by simp only [alloc_size, set_size]; omega)]; exact alloc_new' (by simp only [set_size])
      · refine ⟨?_, trivial⟩
        · show _ = _; rw [alloc_old _ (by simp only [alloc_size, set_size]; omega)]; exact alloc_new' (by simp only [alloc_size, set_size])
end Go.Proofs.YtgpbhigjmkkofaaGreat

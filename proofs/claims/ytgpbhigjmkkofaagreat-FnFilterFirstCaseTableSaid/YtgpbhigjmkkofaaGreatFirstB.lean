/- zzFFBuild at kind 1: the tree that it lays. Printed by firstgen.py. -/
import Derived.Test.YtgpbhigjmkkofaaGreatFirstO
namespace Go.Proofs.YtgpbhigjmkkofaaGreat
open Go.RowKit Go.Deep

set_option maxRecDepth 100000 in
set_option maxHeartbeats 4000000 in
theorem ff_bui_id (n : Nat) (hn : n ≤ 4096) (on inn : ByteArray) (m : Nat) (hm : m ≤ 4096) (pv : Int) (opt : Bool) (pk : Int) (P : FP) (wm : Bool) (w : World) :
    Calls Tryz.prog 20 #[.int .i64 1, .string on, .int .i64 m, .int .i64 pk, .int .i64 pv, .bool opt, .int .i64 1, .string inn, .int .i64 n, .bool wm] w (FFPost w .bui P on m pv opt false wm inn n) := by
  have mk1 := run_make_row' (P := Tryz.prog) 78 39 _ _ Tryz.underlying78 infoPInt rfl .i64 .i64 n (by omega) (by omega)
  have mk2 := run_make_row' (P := Tryz.prog) 62 59 _ _ Tryz.underlying62 infoNode rfl .i64 .i64 n (by omega) (by omega)
  have mk3 := run_make_row' (P := Tryz.prog) 62 59 _ _ Tryz.underlying62 infoNode rfl .i64 .i64 m (by omega) (by omega)
  go_enter Tryz.func20, Tryz.ntmps20
  go_wp2_with fail
  go_loopw [24] (fun i wr => ∃ k : Nat, k ≤ n ∧ i = .int .i64 k ∧ Laid2 w wr n k) (fun i _ => n - (intOf i).toNat)
  case atStart => exact ⟨0, Nat.zero_le _, rfl, Laid2.start w n⟩
  case round =>
    obtain ⟨k, hk, rfl, hl⟩ := hrel
    by_cases hlt : k < n
    · have cp : wr.cell? ⟨w.heap.size + 1 + 1 + 1, k, none⟩ = some (.pointer none) := by rw [hl.ptrs.cell hlt]; simp
      have fp := hl.ptrs.frozen k
      have cn : wr.cell? ⟨w.heap.size + 1 + 1, k, none⟩ = some .nilIface := by rw [hl.nodes.cell hlt]; simp
      have fn := hl.nodes.frozen k
      have ct : wr.cell? ⟨w.heap.size + 1, 4, none⟩ = some (.slice (some ⟨w.heap.size + 1 + 1 + 1, 0, none⟩) n n) := by rw [cell_of_block hl.loc]; rfl
      have l1 : w.heap.size + 1 < wr.heap.size := by have := hl.size; omega
      have l2 : w.heap.size + 1 + 1 < wr.heap.size := by have := hl.size; omega
      have l3 : w.heap.size + 1 + 1 + 1 < wr.heap.size := by have := hl.size; omega
      have HS := Lib.hid (hl.step hlt)
      clear hl mk1 mk2 mk3
      go_wp2_with fail
      go_roundw
      case rel => exact ⟨k + 1, by omega, by go_num, HS.out⟩
      case measure => simp [intOf]; omega
    · obtain rfl : k = n := by omega
      obtain ⟨wz, rfl⟩ : ∃ x : World, x = wr := ⟨_, rfl⟩
      have ct0 : wz.cell? ⟨w.heap.size + 1, 0, none⟩ = some (.pointer none) := by rw [cell_of_block hl.loc]; rfl
      have ct1 : wz.cell? ⟨w.heap.size + 1, 1, none⟩ = some (.pointer none) := by rw [cell_of_block hl.loc]; rfl
      have ct2 : wz.cell? ⟨w.heap.size + 1, 2, none⟩ = some (.pointer none) := by rw [cell_of_block hl.loc]; rfl
      have ct3 : wz.cell? ⟨w.heap.size + 1, 3, none⟩ = some (.pointer none) := by rw [cell_of_block hl.loc]; rfl
      have ct4 : wz.cell? ⟨w.heap.size + 1, 4, none⟩ = some (.slice (some ⟨w.heap.size + 1 + 1 + 1, 0, none⟩) k k) := by rw [cell_of_block hl.loc]; rfl
      have ct5 : wz.cell? ⟨w.heap.size + 1, 5, none⟩ = some (.pointer none) := by rw [cell_of_block hl.loc]; rfl
      have cr0 : wz.cell? ⟨w.heap.size, 0, none⟩ = some (.pointer none) := by rw [cell_of_block hl.res]; rfl
      have cr1 : wz.cell? ⟨w.heap.size, 1, none⟩ = some (.pointer none) := by rw [cell_of_block hl.res]; rfl
      have cr2 : wz.cell? ⟨w.heap.size, 2, none⟩ = some (.pointer none) := by rw [cell_of_block hl.res]; rfl
      have cr3 : wz.cell? ⟨w.heap.size, 3, none⟩ = some (.pointer none) := by rw [cell_of_block hl.res]; rfl
      have cr4 : wz.cell? ⟨w.heap.size, 4, none⟩ = some (.slice none 0 0) := by rw [cell_of_block hl.res]; rfl
      have cr5 : wz.cell? ⟨w.heap.size, 5, none⟩ = some (.pointer none) := by rw [cell_of_block hl.res]; rfl
      have fr0 := free_of_block hl.res 0
      have ft0 := free_of_block hl.loc 0
      have fr1 := free_of_block hl.res 1
      have ft1 := free_of_block hl.loc 1
      have fr2 := free_of_block hl.res 2
      have ft2 := free_of_block hl.loc 2
      have fr3 := free_of_block hl.res 3
      have ft3 := free_of_block hl.loc 3
      have fr4 := free_of_block hl.res 4
      have ft4 := free_of_block hl.loc 4
      have fr5 := free_of_block hl.res 5
      have ft5 := free_of_block hl.loc 5
      have l0 : w.heap.size < wz.heap.size := by have := hl.size; omega
      have l1 : w.heap.size + 1 < wz.heap.size := by have := hl.size; omega
      have l01 : w.heap.size < wz.heap.size + 1 := by omega
      have l11 : w.heap.size + 1 < wz.heap.size + 1 := by omega
      have l02 : w.heap.size < wz.heap.size + 1 + 1 := by omega
      have l12 : w.heap.size + 1 < wz.heap.size + 1 + 1 := by omega
      have l03 : w.heap.size < wz.heap.size + 1 + 1 + 1 := by omega
      have l13 : w.heap.size + 1 < wz.heap.size + 1 + 1 + 1 := by omega
      have l04 : w.heap.size < wz.heap.size + 1 + 1 + 1 + 1 := by omega
      have l14 : w.heap.size + 1 < wz.heap.size + 1 + 1 + 1 + 1 := by omega
      have HL := Lib.hid hl
      clear hl mk1 mk2
      go_wp2_with fail
      go_loopw [31] (fun i w2 => ∃ j : Nat, j ≤ m ∧ i = .int .i64 j ∧ Outer w wz w2 (wz.heap.size + 1) m j (.iface 37 (.pointer (some ⟨wz.heap.size, 0, none⟩))) false wm inn k wz.heap.size 0 (.pointer none) (.pointer none)) (fun i _ => m - (intOf i).toNat)
      case atStart =>
        have hs := HL.out.size
        refine ⟨0, Nat.zero_le _, rfl, Outer.start ?_ ?_ ?_ ?_ ?_ (by omega)⟩
        · exact (Wr.refl _ _).alloc _
        · rw [alloc_old _ (by first | omega | (simp only [alloc_size]; omega) | (simp only [set_size]; omega) | (simp only [alloc_size, set_size]; omega))]; exact HL.out.res
        · rw [alloc_old _ (by first | omega | (simp only [alloc_size]; omega) | (simp only [set_size]; omega) | (simp only [alloc_size, set_size]; omega))]; exact HL.out.loc
        · show _ = _; exact alloc_new' (by first | rfl | (simp only [alloc_size]; done) | (simp only [set_size]; done) | (simp only [alloc_size, set_size]; done))
        · first | (simp only [alloc_size]; done) | (simp only [set_size]; done) | (simp only [alloc_size, set_size]; done)
      case round =>
        obtain ⟨j, hj, rfl, ho⟩ := hrel
        have ls : w.heap.size + 1 < wz.heap.size := by have := HL.out.size; omega
        have hb1 := lt_of_heap ho.res
        have hb2 := lt_of_heap ho.loc
        obtain ⟨f, hrow, hf⟩ := ho.row
        by_cases hlt2 : j < m
        · have cb : wr.cell? ⟨wz.heap.size + 1, j, none⟩ = some (f j) := hrow.cell hlt2
          have fb := hrow.frozen j
          have lb := hrow.lt
          by_cases hj0 : j = 0
          · subst hj0
            have HS := Lib.hid (ho.set (.iface 37 (.pointer (some ⟨wz.heap.size, 0, none⟩))) (fun _ => rfl))
            clear ho hrow mk3
            go_wp2_with fail
            go_roundw
            case rel => exact ⟨1, by omega, by go_num, HS.out⟩
            case measure => simp [intOf]; omega
          · have HS := Lib.hid ((ho.set (.iface 39 (.pointer (some ⟨wr.heap.size, 0, none⟩))) (fun h => absurd h hj0)).alloc (.cells (nd0 [.int .i64 j]) 52))
            clear ho hrow mk3
            go_wp2_with fail
            go_roundw
            case rel => exact ⟨j + 1, by omega, by go_num, HS.out⟩
            case measure => simp [intOf]; omega
        · obtain rfl : j = m := by omega
          clear ct0 ct1 ct2 ct3 ct4 ct5 cr0 cr1 cr2 cr3 cr4 cr5 fr0 fr1 fr2 fr3 fr4 fr5 ft0 ft1 ft2 ft3 ft4 ft5 l0 l1 l01 l02 l03 l04 l11 l12 l13 l14
          have ct0 : wr.cell? ⟨w.heap.size + 1, 0, none⟩ = some (.pointer none) := by rw [cell_of_block ho.loc]; rfl
          have ct1 : wr.cell? ⟨w.heap.size + 1, 1, none⟩ = some (.pointer none) := by rw [cell_of_block ho.loc]; rfl
          have ct2 : wr.cell? ⟨w.heap.size + 1, 2, none⟩ = some (.pointer none) := by rw [cell_of_block ho.loc]; rfl
          have ct3 : wr.cell? ⟨w.heap.size + 1, 3, none⟩ = some (.pointer none) := by rw [cell_of_block ho.loc]; rfl
          have ct4 : wr.cell? ⟨w.heap.size + 1, 4, none⟩ = some (.slice (some ⟨w.heap.size + 1 + 1 + 1, 0, none⟩) k k) := by rw [cell_of_block ho.loc]; rfl
          have ct5 : wr.cell? ⟨w.heap.size + 1, 5, none⟩ = some (.pointer none) := by rw [cell_of_block ho.loc]; rfl
          have cr0 : wr.cell? ⟨w.heap.size, 0, none⟩ = some (.pointer none) := by rw [cell_of_block ho.res]; rfl
          have cr1 : wr.cell? ⟨w.heap.size, 1, none⟩ = some (.pointer none) := by rw [cell_of_block ho.res]; rfl
          have cr2 : wr.cell? ⟨w.heap.size, 2, none⟩ = some (.pointer none) := by rw [cell_of_block ho.res]; rfl
          have cr3 : wr.cell? ⟨w.heap.size, 3, none⟩ = some (.pointer none) := by rw [cell_of_block ho.res]; rfl
          have cr4 : wr.cell? ⟨w.heap.size, 4, none⟩ = some (.slice none 0 0) := by rw [cell_of_block ho.res]; rfl
          have cr5 : wr.cell? ⟨w.heap.size, 5, none⟩ = some (.pointer none) := by rw [cell_of_block ho.res]; rfl
          have fr0 := free_of_block ho.res 0
          have ft0 := free_of_block ho.loc 0
          have fr1 := free_of_block ho.res 1
          have ft1 := free_of_block ho.loc 1
          have fr2 := free_of_block ho.res 2
          have ft2 := free_of_block ho.loc 2
          have fr3 := free_of_block ho.res 3
          have ft3 := free_of_block ho.loc 3
          have fr4 := free_of_block ho.res 4
          have ft4 := free_of_block ho.loc 4
          have fr5 := free_of_block ho.res 5
          have ft5 := free_of_block ho.loc 5
          have l0 : w.heap.size < wr.heap.size := by omega
          have l1 : w.heap.size + 1 < wr.heap.size := by omega
          have l01 : w.heap.size < wr.heap.size + 1 := by omega
          have l11 : w.heap.size + 1 < wr.heap.size + 1 := by omega
          have l02 : w.heap.size < wr.heap.size + 1 + 1 := by omega
          have l12 : w.heap.size + 1 < wr.heap.size + 1 + 1 := by omega
          have l03 : w.heap.size < wr.heap.size + 1 + 1 + 1 := by omega
          have l13 : w.heap.size + 1 < wr.heap.size + 1 + 1 + 1 := by omega
          have l04 : w.heap.size < wr.heap.size + 1 + 1 + 1 + 1 := by omega
          have l14 : w.heap.size + 1 < wr.heap.size + 1 + 1 + 1 + 1 := by omega
          have HO := Lib.hid ho
          clear ho hrow mk3
          go_wp2_with fail
          refine bodyPost_ret (v := .tuple #[.agg #[.pointer none, (.pointer (some ⟨wr.heap.size, 0, none⟩)), .pointer none, .pointer none, (.slice (some ⟨w.heap.size + 1 + 1 + 1, 0, none⟩) k k), .pointer none], (.iface 77 (.pointer (some ⟨wr.heap.size, 0, none⟩)))]) (by simp [results, Tryz.results20, go_sem, l0, cr0, cr1, cr2, cr3, cr4, cr5]) rfl ?_
          refine ⟨wr.heap.size, 0, wz.heap.size + 1, wz.heap.size, 0, w.heap.size + 1 + 1 + 1, w.heap.size + 1 + 1, w.heap.size + 4, rfl, Outer.done HL.out HO.out (((((((((Wr.refl _ _).set (by simp) _).set (by simp) _).set (by simp) _).set (by simp) _).set (by simp) _).set (by simp) _).set (by simp) _).alloc _) rfl ?_⟩
          exact alloc_new' (by simp only [set_size])
set_option maxRecDepth 100000 in
set_option maxHeartbeats 4000000 in
theorem ff_bui_bn (n : Nat) (hn : n ≤ 4096) (on inn : ByteArray) (m : Nat) (hm : m ≤ 4096) (pv : Int) (opt : Bool) (pk : Int) (P : FP) (w : World) :
    Calls Tryz.prog 20 #[.int .i64 1, .string on, .int .i64 m, .int .i64 pk, .int .i64 pv, .bool opt, .int .i64 0, .string inn, .int .i64 n, .bool false] w (FFPost w .bui P on m pv opt true false inn n) := by
  have mk1 := run_make_row' (P := Tryz.prog) 78 39 _ _ Tryz.underlying78 infoPInt rfl .i64 .i64 n (by omega) (by omega)
  have mk2 := run_make_row' (P := Tryz.prog) 62 59 _ _ Tryz.underlying62 infoNode rfl .i64 .i64 n (by omega) (by omega)
  have mk3 := run_make_row' (P := Tryz.prog) 62 59 _ _ Tryz.underlying62 infoNode rfl .i64 .i64 m (by omega) (by omega)
  go_enter Tryz.func20, Tryz.ntmps20
  go_wp2_with fail
  go_loopw [24] (fun i wr => ∃ k : Nat, k ≤ n ∧ i = .int .i64 k ∧ Laid2 w wr n k) (fun i _ => n - (intOf i).toNat)
  case atStart => exact ⟨0, Nat.zero_le _, rfl, Laid2.start w n⟩
  case round =>
    obtain ⟨k, hk, rfl, hl⟩ := hrel
    by_cases hlt : k < n
    · have cp : wr.cell? ⟨w.heap.size + 1 + 1 + 1, k, none⟩ = some (.pointer none) := by rw [hl.ptrs.cell hlt]; simp
      have fp := hl.ptrs.frozen k
      have cn : wr.cell? ⟨w.heap.size + 1 + 1, k, none⟩ = some .nilIface := by rw [hl.nodes.cell hlt]; simp
      have fn := hl.nodes.frozen k
      have ct : wr.cell? ⟨w.heap.size + 1, 4, none⟩ = some (.slice (some ⟨w.heap.size + 1 + 1 + 1, 0, none⟩) n n) := by rw [cell_of_block hl.loc]; rfl
      have l1 : w.heap.size + 1 < wr.heap.size := by have := hl.size; omega
      have l2 : w.heap.size + 1 + 1 < wr.heap.size := by have := hl.size; omega
      have l3 : w.heap.size + 1 + 1 + 1 < wr.heap.size := by have := hl.size; omega
      have HS := Lib.hid (hl.step hlt)
      clear hl mk1 mk2 mk3
      go_wp2_with fail
      go_roundw
      case rel => exact ⟨k + 1, by omega, by go_num, HS.out⟩
      case measure => simp [intOf]; omega
    · obtain rfl : k = n := by omega
      obtain ⟨wz, rfl⟩ : ∃ x : World, x = wr := ⟨_, rfl⟩
      have ct0 : wz.cell? ⟨w.heap.size + 1, 0, none⟩ = some (.pointer none) := by rw [cell_of_block hl.loc]; rfl
      have ct1 : wz.cell? ⟨w.heap.size + 1, 1, none⟩ = some (.pointer none) := by rw [cell_of_block hl.loc]; rfl
      have ct2 : wz.cell? ⟨w.heap.size + 1, 2, none⟩ = some (.pointer none) := by rw [cell_of_block hl.loc]; rfl
      have ct3 : wz.cell? ⟨w.heap.size + 1, 3, none⟩ = some (.pointer none) := by rw [cell_of_block hl.loc]; rfl
      have ct4 : wz.cell? ⟨w.heap.size + 1, 4, none⟩ = some (.slice (some ⟨w.heap.size + 1 + 1 + 1, 0, none⟩) k k) := by rw [cell_of_block hl.loc]; rfl
      have ct5 : wz.cell? ⟨w.heap.size + 1, 5, none⟩ = some (.pointer none) := by rw [cell_of_block hl.loc]; rfl
      have cr0 : wz.cell? ⟨w.heap.size, 0, none⟩ = some (.pointer none) := by rw [cell_of_block hl.res]; rfl
      have cr1 : wz.cell? ⟨w.heap.size, 1, none⟩ = some (.pointer none) := by rw [cell_of_block hl.res]; rfl
      have cr2 : wz.cell? ⟨w.heap.size, 2, none⟩ = some (.pointer none) := by rw [cell_of_block hl.res]; rfl
      have cr3 : wz.cell? ⟨w.heap.size, 3, none⟩ = some (.pointer none) := by rw [cell_of_block hl.res]; rfl
      have cr4 : wz.cell? ⟨w.heap.size, 4, none⟩ = some (.slice none 0 0) := by rw [cell_of_block hl.res]; rfl
      have cr5 : wz.cell? ⟨w.heap.size, 5, none⟩ = some (.pointer none) := by rw [cell_of_block hl.res]; rfl
      have fr0 := free_of_block hl.res 0
      have ft0 := free_of_block hl.loc 0
      have fr1 := free_of_block hl.res 1
      have ft1 := free_of_block hl.loc 1
      have fr2 := free_of_block hl.res 2
      have ft2 := free_of_block hl.loc 2
      have fr3 := free_of_block hl.res 3
      have ft3 := free_of_block hl.loc 3
      have fr4 := free_of_block hl.res 4
      have ft4 := free_of_block hl.loc 4
      have fr5 := free_of_block hl.res 5
      have ft5 := free_of_block hl.loc 5
      have l0 : w.heap.size < wz.heap.size := by have := hl.size; omega
      have l1 : w.heap.size + 1 < wz.heap.size := by have := hl.size; omega
      have l01 : w.heap.size < wz.heap.size + 1 := by omega
      have l11 : w.heap.size + 1 < wz.heap.size + 1 := by omega
      have l02 : w.heap.size < wz.heap.size + 1 + 1 := by omega
      have l12 : w.heap.size + 1 < wz.heap.size + 1 + 1 := by omega
      have l03 : w.heap.size < wz.heap.size + 1 + 1 + 1 := by omega
      have l13 : w.heap.size + 1 < wz.heap.size + 1 + 1 + 1 := by omega
      have l04 : w.heap.size < wz.heap.size + 1 + 1 + 1 + 1 := by omega
      have l14 : w.heap.size + 1 < wz.heap.size + 1 + 1 + 1 + 1 := by omega
      have HL := Lib.hid hl
      clear hl mk1 mk2
      go_wp2_with fail
      go_loopw [31] (fun i w2 => ∃ j : Nat, j ≤ m ∧ i = .int .i64 j ∧ Outer w wz w2 (wz.heap.size + 1) m j (.iface 77 (.pointer (some ⟨wz.heap.size, 0, none⟩))) true false inn k wz.heap.size 0 ((.pointer (some ⟨wz.heap.size, 0, none⟩))) (.pointer none)) (fun i _ => m - (intOf i).toNat)
      case atStart =>
        have hs := HL.out.size
        refine ⟨0, Nat.zero_le _, rfl, Outer.start ?_ ?_ ?_ ?_ ?_ (by omega)⟩
        · exact ((Wr.refl _ _).set (by simp) _).alloc _
        · rw [alloc_old _ (by first | omega | (simp only [alloc_size]; omega) | (simp only [set_size]; omega) | (simp only [alloc_size, set_size]; omega))]; rw [set_other (by intro hx; dsimp only at hx; omega)]; exact HL.out.res
        · rw [alloc_old _ (by first | omega | (simp only [alloc_size]; omega) | (simp only [set_size]; omega) | (simp only [alloc_size, set_size]; omega))]; exact set_block HL.out.loc 3 _
        · show _ = _; exact alloc_new' (by first | rfl | (simp only [alloc_size]; done) | (simp only [set_size]; done) | (simp only [alloc_size, set_size]; done))
        · first | (simp only [alloc_size]; done) | (simp only [set_size]; done) | (simp only [alloc_size, set_size]; done)
      case round =>
        obtain ⟨j, hj, rfl, ho⟩ := hrel
        have ls : w.heap.size + 1 < wz.heap.size := by have := HL.out.size; omega
        have hb1 := lt_of_heap ho.res
        have hb2 := lt_of_heap ho.loc
        obtain ⟨f, hrow, hf⟩ := ho.row
        by_cases hlt2 : j < m
        · have cb : wr.cell? ⟨wz.heap.size + 1, j, none⟩ = some (f j) := hrow.cell hlt2
          have fb := hrow.frozen j
          have lb := hrow.lt
          by_cases hj0 : j = 0
          · subst hj0
            have HS := Lib.hid (ho.set (.iface 77 (.pointer (some ⟨wz.heap.size, 0, none⟩))) (fun _ => rfl))
            clear ho hrow mk3
            go_wp2_with fail
            go_roundw
            case rel => exact ⟨1, by omega, by go_num, HS.out⟩
            case measure => simp [intOf]; omega
          · have HS := Lib.hid ((ho.set (.iface 39 (.pointer (some ⟨wr.heap.size, 0, none⟩))) (fun h => absurd h hj0)).alloc (.cells (nd0 [.int .i64 j]) 52))
            clear ho hrow mk3
            go_wp2_with fail
            go_roundw
            case rel => exact ⟨j + 1, by omega, by go_num, HS.out⟩
            case measure => simp [intOf]; omega
        · obtain rfl : j = m := by omega
          clear ct0 ct1 ct2 ct3 ct4 ct5 cr0 cr1 cr2 cr3 cr4 cr5 fr0 fr1 fr2 fr3 fr4 fr5 ft0 ft1 ft2 ft3 ft4 ft5 l0 l1 l01 l02 l03 l04 l11 l12 l13 l14
          have ct0 : wr.cell? ⟨w.heap.size + 1, 0, none⟩ = some (.pointer none) := by rw [cell_of_block ho.loc]; rfl
          have ct1 : wr.cell? ⟨w.heap.size + 1, 1, none⟩ = some (.pointer none) := by rw [cell_of_block ho.loc]; rfl
          have ct2 : wr.cell? ⟨w.heap.size + 1, 2, none⟩ = some (.pointer none) := by rw [cell_of_block ho.loc]; rfl
          have ct3 : wr.cell? ⟨w.heap.size + 1, 3, none⟩ = some ((.pointer (some ⟨wz.heap.size, 0, none⟩))) := by rw [cell_of_block ho.loc]; rfl
          have ct4 : wr.cell? ⟨w.heap.size + 1, 4, none⟩ = some (.slice (some ⟨w.heap.size + 1 + 1 + 1, 0, none⟩) k k) := by rw [cell_of_block ho.loc]; rfl
          have ct5 : wr.cell? ⟨w.heap.size + 1, 5, none⟩ = some (.pointer none) := by rw [cell_of_block ho.loc]; rfl
          have cr0 : wr.cell? ⟨w.heap.size, 0, none⟩ = some (.pointer none) := by rw [cell_of_block ho.res]; rfl
          have cr1 : wr.cell? ⟨w.heap.size, 1, none⟩ = some (.pointer none) := by rw [cell_of_block ho.res]; rfl
          have cr2 : wr.cell? ⟨w.heap.size, 2, none⟩ = some (.pointer none) := by rw [cell_of_block ho.res]; rfl
          have cr3 : wr.cell? ⟨w.heap.size, 3, none⟩ = some (.pointer none) := by rw [cell_of_block ho.res]; rfl
          have cr4 : wr.cell? ⟨w.heap.size, 4, none⟩ = some (.slice none 0 0) := by rw [cell_of_block ho.res]; rfl
          have cr5 : wr.cell? ⟨w.heap.size, 5, none⟩ = some (.pointer none) := by rw [cell_of_block ho.res]; rfl
          have fr0 := free_of_block ho.res 0
          have ft0 := free_of_block ho.loc 0
          have fr1 := free_of_block ho.res 1
          have ft1 := free_of_block ho.loc 1
          have fr2 := free_of_block ho.res 2
          have ft2 := free_of_block ho.loc 2
          have fr3 := free_of_block ho.res 3
          have ft3 := free_of_block ho.loc 3
          have fr4 := free_of_block ho.res 4
          have ft4 := free_of_block ho.loc 4
          have fr5 := free_of_block ho.res 5
          have ft5 := free_of_block ho.loc 5
          have l0 : w.heap.size < wr.heap.size := by omega
          have l1 : w.heap.size + 1 < wr.heap.size := by omega
          have l01 : w.heap.size < wr.heap.size + 1 := by omega
          have l11 : w.heap.size + 1 < wr.heap.size + 1 := by omega
          have l02 : w.heap.size < wr.heap.size + 1 + 1 := by omega
          have l12 : w.heap.size + 1 < wr.heap.size + 1 + 1 := by omega
          have l03 : w.heap.size < wr.heap.size + 1 + 1 + 1 := by omega
          have l13 : w.heap.size + 1 < wr.heap.size + 1 + 1 + 1 := by omega
          have l04 : w.heap.size < wr.heap.size + 1 + 1 + 1 + 1 := by omega
          have l14 : w.heap.size + 1 < wr.heap.size + 1 + 1 + 1 + 1 := by omega
          have HO := Lib.hid ho
          clear ho hrow mk3
          go_wp2_with fail
          refine bodyPost_ret (v := .tuple #[.agg #[.pointer none, (.pointer (some ⟨wr.heap.size, 0, none⟩)), .pointer none, (.pointer (some ⟨wz.heap.size, 0, none⟩)), (.slice (some ⟨w.heap.size + 1 + 1 + 1, 0, none⟩) k k), .pointer none], (.iface 77 (.pointer (some ⟨wr.heap.size, 0, none⟩)))]) (by simp [results, Tryz.results20, go_sem, l0, cr0, cr1, cr2, cr3, cr4, cr5]) rfl ?_
          refine ⟨wr.heap.size, 0, wz.heap.size + 1, wz.heap.size, 0, w.heap.size + 1 + 1 + 1, w.heap.size + 1 + 1, w.heap.size + 4, rfl, Outer.done HL.out HO.out (((((((((Wr.refl _ _).set (by simp) _).set (by simp) _).set (by simp) _).set (by simp) _).set (by simp) _).set (by simp) _).set (by simp) _).alloc _) rfl ?_⟩
          exact alloc_new' (by simp only [set_size])
set_option maxRecDepth 100000 in
set_option maxHeartbeats 4000000 in
theorem ff_bui_bm (n : Nat) (hn : n ≤ 4096) (on inn : ByteArray) (m : Nat) (hm : m ≤ 4096) (pv : Int) (opt : Bool) (pk : Int) (P : FP) (w : World) :
    Calls Tryz.prog 20 #[.int .i64 1, .string on, .int .i64 m, .int .i64 pk, .int .i64 pv, .bool opt, .int .i64 0, .string inn, .int .i64 n, .bool true] w (FFPost w .bui P on m pv opt true true inn n) := by
  have mk1 := run_make_row' (P := Tryz.prog) 78 39 _ _ Tryz.underlying78 infoPInt rfl .i64 .i64 n (by omega) (by omega)
  have mk2 := run_make_row' (P := Tryz.prog) 62 59 _ _ Tryz.underlying62 infoNode rfl .i64 .i64 n (by omega) (by omega)
  have mk3 := run_make_row' (P := Tryz.prog) 62 59 _ _ Tryz.underlying62 infoNode rfl .i64 .i64 m (by omega) (by omega)
  go_enter Tryz.func20, Tryz.ntmps20
  go_wp2_with fail
  go_loopw [24] (fun i wr => ∃ k : Nat, k ≤ n ∧ i = .int .i64 k ∧ Laid2 w wr n k) (fun i _ => n - (intOf i).toNat)
  case atStart => exact ⟨0, Nat.zero_le _, rfl, Laid2.start w n⟩
  case round =>
    obtain ⟨k, hk, rfl, hl⟩ := hrel
    by_cases hlt : k < n
    · have cp : wr.cell? ⟨w.heap.size + 1 + 1 + 1, k, none⟩ = some (.pointer none) := by rw [hl.ptrs.cell hlt]; simp
      have fp := hl.ptrs.frozen k
      have cn : wr.cell? ⟨w.heap.size + 1 + 1, k, none⟩ = some .nilIface := by rw [hl.nodes.cell hlt]; simp
      have fn := hl.nodes.frozen k
      have ct : wr.cell? ⟨w.heap.size + 1, 4, none⟩ = some (.slice (some ⟨w.heap.size + 1 + 1 + 1, 0, none⟩) n n) := by rw [cell_of_block hl.loc]; rfl
      have l1 : w.heap.size + 1 < wr.heap.size := by have := hl.size; omega
      have l2 : w.heap.size + 1 + 1 < wr.heap.size := by have := hl.size; omega
      have l3 : w.heap.size + 1 + 1 + 1 < wr.heap.size := by have := hl.size; omega
      have HS := Lib.hid (hl.step hlt)
      clear hl mk1 mk2 mk3
      go_wp2_with fail
      go_roundw
      case rel => exact ⟨k + 1, by omega, by go_num, HS.out⟩
      case measure => simp [intOf]; omega
    · obtain rfl : k = n := by omega
      obtain ⟨wz, rfl⟩ : ∃ x : World, x = wr := ⟨_, rfl⟩
      have ct0 : wz.cell? ⟨w.heap.size + 1, 0, none⟩ = some (.pointer none) := by rw [cell_of_block hl.loc]; rfl
      have ct1 : wz.cell? ⟨w.heap.size + 1, 1, none⟩ = some (.pointer none) := by rw [cell_of_block hl.loc]; rfl
      have ct2 : wz.cell? ⟨w.heap.size + 1, 2, none⟩ = some (.pointer none) := by rw [cell_of_block hl.loc]; rfl
      have ct3 : wz.cell? ⟨w.heap.size + 1, 3, none⟩ = some (.pointer none) := by rw [cell_of_block hl.loc]; rfl
      have ct4 : wz.cell? ⟨w.heap.size + 1, 4, none⟩ = some (.slice (some ⟨w.heap.size + 1 + 1 + 1, 0, none⟩) k k) := by rw [cell_of_block hl.loc]; rfl
      have ct5 : wz.cell? ⟨w.heap.size + 1, 5, none⟩ = some (.pointer none) := by rw [cell_of_block hl.loc]; rfl
      have cr0 : wz.cell? ⟨w.heap.size, 0, none⟩ = some (.pointer none) := by rw [cell_of_block hl.res]; rfl
      have cr1 : wz.cell? ⟨w.heap.size, 1, none⟩ = some (.pointer none) := by rw [cell_of_block hl.res]; rfl
      have cr2 : wz.cell? ⟨w.heap.size, 2, none⟩ = some (.pointer none) := by rw [cell_of_block hl.res]; rfl
      have cr3 : wz.cell? ⟨w.heap.size, 3, none⟩ = some (.pointer none) := by rw [cell_of_block hl.res]; rfl
      have cr4 : wz.cell? ⟨w.heap.size, 4, none⟩ = some (.slice none 0 0) := by rw [cell_of_block hl.res]; rfl
      have cr5 : wz.cell? ⟨w.heap.size, 5, none⟩ = some (.pointer none) := by rw [cell_of_block hl.res]; rfl
      have fr0 := free_of_block hl.res 0
      have ft0 := free_of_block hl.loc 0
      have fr1 := free_of_block hl.res 1
      have ft1 := free_of_block hl.loc 1
      have fr2 := free_of_block hl.res 2
      have ft2 := free_of_block hl.loc 2
      have fr3 := free_of_block hl.res 3
      have ft3 := free_of_block hl.loc 3
      have fr4 := free_of_block hl.res 4
      have ft4 := free_of_block hl.loc 4
      have fr5 := free_of_block hl.res 5
      have ft5 := free_of_block hl.loc 5
      have l0 : w.heap.size < wz.heap.size := by have := hl.size; omega
      have l1 : w.heap.size + 1 < wz.heap.size := by have := hl.size; omega
      have l01 : w.heap.size < wz.heap.size + 1 := by omega
      have l11 : w.heap.size + 1 < wz.heap.size + 1 := by omega
      have l02 : w.heap.size < wz.heap.size + 1 + 1 := by omega
      have l12 : w.heap.size + 1 < wz.heap.size + 1 + 1 := by omega
      have l03 : w.heap.size < wz.heap.size + 1 + 1 + 1 := by omega
      have l13 : w.heap.size + 1 < wz.heap.size + 1 + 1 + 1 := by omega
      have l04 : w.heap.size < wz.heap.size + 1 + 1 + 1 + 1 := by omega
      have l14 : w.heap.size + 1 < wz.heap.size + 1 + 1 + 1 + 1 := by omega
      have HL := Lib.hid hl
      clear hl mk1 mk2
      go_wp2_with fail
      go_loopw [31] (fun i w2 => ∃ j : Nat, j ≤ m ∧ i = .int .i64 j ∧ Outer w wz w2 (wz.heap.size + 1 + 1) m j (.iface 77 (.pointer (some ⟨wz.heap.size, 0, none⟩))) true true inn k wz.heap.size (wz.heap.size + 1) ((.pointer (some ⟨wz.heap.size, 0, none⟩))) ((.pointer (some ⟨wz.heap.size + 1, 0, none⟩)))) (fun i _ => m - (intOf i).toNat)
      case atStart =>
        have hs := HL.out.size
        refine ⟨0, Nat.zero_le _, rfl, Outer.start ?_ ?_ ?_ ?_ ?_ (by omega)⟩
        · exact ((((Wr.refl _ _).set (by simp) _).set (by simp) _).alloc _).alloc _
        · rw [alloc_old _ (by first | omega | (simp only [alloc_size]; omega) | (simp only [set_size]; omega) | (simp only [alloc_size, set_size]; omega))]; rw [alloc_old _ (by first | omega | (simp only [alloc_size]; omega) | (simp only [set_size]; omega) | (simp only [alloc_size, set_size]; omega))]; rw [set_other (by intro hx; dsimp only at hx; omega)]; rw [set_other (by intro hx; dsimp only at hx; omega)]; exact HL.out.res
        · rw [alloc_old _ (by first | omega | (simp only [alloc_size]; omega) | (simp only [set_size]; omega) | (simp only [alloc_size, set_size]; omega))]; rw [alloc_old _ (by first | omega | (simp only [alloc_size]; omega) | (simp only [set_size]; omega) | (simp only [alloc_size, set_size]; omega))]; exact set_block (set_block HL.out.loc 5 _) 3 _
        · show _ = _; rw [alloc_old _ (by first | omega | (simp only [alloc_size]; omega) | (simp only [set_size]; omega) | (simp only [alloc_size, set_size]; omega))]; exact alloc_new' (by first | rfl | (simp only [alloc_size]; done) | (simp only [set_size]; done) | (simp only [alloc_size, set_size]; done))
        · first | (simp only [alloc_size]; done) | (simp only [set_size]; done) | (simp only [alloc_size, set_size]; done)
      case round =>
        obtain ⟨j, hj, rfl, ho⟩ := hrel
        have ls : w.heap.size + 1 < wz.heap.size := by have := HL.out.size; omega
        have hb1 := lt_of_heap ho.res
        have hb2 := lt_of_heap ho.loc
        obtain ⟨f, hrow, hf⟩ := ho.row
        by_cases hlt2 : j < m
        · have cb : wr.cell? ⟨wz.heap.size + 1 + 1, j, none⟩ = some (f j) := hrow.cell hlt2
          have fb := hrow.frozen j
          have lb := hrow.lt
          by_cases hj0 : j = 0
          · subst hj0
            have HS := Lib.hid (ho.set (.iface 77 (.pointer (some ⟨wz.heap.size, 0, none⟩))) (fun _ => rfl))
            clear ho hrow mk3
            go_wp2_with fail
            go_roundw
            case rel => exact ⟨1, by omega, by go_num, HS.out⟩
            case measure => simp [intOf]; omega
          · have HS := Lib.hid ((ho.set (.iface 39 (.pointer (some ⟨wr.heap.size, 0, none⟩))) (fun h => absurd h hj0)).alloc (.cells (nd0 [.int .i64 j]) 52))
            clear ho hrow mk3
            go_wp2_with fail
            go_roundw
            case rel => exact ⟨j + 1, by omega, by go_num, HS.out⟩
            case measure => simp [intOf]; omega
        · obtain rfl : j = m := by omega
          clear ct0 ct1 ct2 ct3 ct4 ct5 cr0 cr1 cr2 cr3 cr4 cr5 fr0 fr1 fr2 fr3 fr4 fr5 ft0 ft1 ft2 ft3 ft4 ft5 l0 l1 l01 l02 l03 l04 l11 l12 l13 l14
          have ct0 : wr.cell? ⟨w.heap.size + 1, 0, none⟩ = some (.pointer none) := by rw [cell_of_block ho.loc]; rfl
          have ct1 : wr.cell? ⟨w.heap.size + 1, 1, none⟩ = some (.pointer none) := by rw [cell_of_block ho.loc]; rfl
          have ct2 : wr.cell? ⟨w.heap.size + 1, 2, none⟩ = some (.pointer none) := by rw [cell_of_block ho.loc]; rfl
          have ct3 : wr.cell? ⟨w.heap.size + 1, 3, none⟩ = some ((.pointer (some ⟨wz.heap.size, 0, none⟩))) := by rw [cell_of_block ho.loc]; rfl
          have ct4 : wr.cell? ⟨w.heap.size + 1, 4, none⟩ = some (.slice (some ⟨w.heap.size + 1 + 1 + 1, 0, none⟩) k k) := by rw [cell_of_block ho.loc]; rfl
          have ct5 : wr.cell? ⟨w.heap.size + 1, 5, none⟩ = some ((.pointer (some ⟨wz.heap.size + 1, 0, none⟩))) := by rw [cell_of_block ho.loc]; rfl
          have cr0 : wr.cell? ⟨w.heap.size, 0, none⟩ = some (.pointer none) := by rw [cell_of_block ho.res]; rfl
          have cr1 : wr.cell? ⟨w.heap.size, 1, none⟩ = some (.pointer none) := by rw [cell_of_block ho.res]; rfl
          have cr2 : wr.cell? ⟨w.heap.size, 2, none⟩ = some (.pointer none) := by rw [cell_of_block ho.res]; rfl
          have cr3 : wr.cell? ⟨w.heap.size, 3, none⟩ = some (.pointer none) := by rw [cell_of_block ho.res]; rfl
          have cr4 : wr.cell? ⟨w.heap.size, 4, none⟩ = some (.slice none 0 0) := by rw [cell_of_block ho.res]; rfl
          have cr5 : wr.cell? ⟨w.heap.size, 5, none⟩ = some (.pointer none) := by rw [cell_of_block ho.res]; rfl
          have fr0 := free_of_block ho.res 0
          have ft0 := free_of_block ho.loc 0
          have fr1 := free_of_block ho.res 1
          have ft1 := free_of_block ho.loc 1
          have fr2 := free_of_block ho.res 2
          have ft2 := free_of_block ho.loc 2
          have fr3 := free_of_block ho.res 3
          have ft3 := free_of_block ho.loc 3
          have fr4 := free_of_block ho.res 4
          have ft4 := free_of_block ho.loc 4
          have fr5 := free_of_block ho.res 5
          have ft5 := free_of_block ho.loc 5
          have l0 : w.heap.size < wr.heap.size := by omega
          have l1 : w.heap.size + 1 < wr.heap.size := by omega
          have l01 : w.heap.size < wr.heap.size + 1 := by omega
          have l11 : w.heap.size + 1 < wr.heap.size + 1 := by omega
          have l02 : w.heap.size < wr.heap.size + 1 + 1 := by omega
          have l12 : w.heap.size + 1 < wr.heap.size + 1 + 1 := by omega
          have l03 : w.heap.size < wr.heap.size + 1 + 1 + 1 := by omega
          have l13 : w.heap.size + 1 < wr.heap.size + 1 + 1 + 1 := by omega
          have l04 : w.heap.size < wr.heap.size + 1 + 1 + 1 + 1 := by omega
          have l14 : w.heap.size + 1 < wr.heap.size + 1 + 1 + 1 + 1 := by omega
          have HO := Lib.hid ho
          clear ho hrow mk3
          go_wp2_with fail
          refine bodyPost_ret (v := .tuple #[.agg #[.pointer none, (.pointer (some ⟨wr.heap.size, 0, none⟩)), .pointer none, (.pointer (some ⟨wz.heap.size, 0, none⟩)), (.slice (some ⟨w.heap.size + 1 + 1 + 1, 0, none⟩) k k), (.pointer (some ⟨wz.heap.size + 1, 0, none⟩))], (.iface 77 (.pointer (some ⟨wr.heap.size, 0, none⟩)))]) (by simp [results, Tryz.results20, go_sem, l0, cr0, cr1, cr2, cr3, cr4, cr5]) rfl ?_
          refine ⟨wr.heap.size, 0, wz.heap.size + 1 + 1, wz.heap.size, (wz.heap.size + 1), w.heap.size + 1 + 1 + 1, w.heap.size + 1 + 1, w.heap.size + 4, rfl, Outer.done HL.out HO.out (((((((((Wr.refl _ _).set (by simp) _).set (by simp) _).set (by simp) _).set (by simp) _).set (by simp) _).set (by simp) _).set (by simp) _).alloc _) rfl ?_⟩
          exact alloc_new' (by simp only [set_size])
end Go.Proofs.YtgpbhigjmkkofaaGreat

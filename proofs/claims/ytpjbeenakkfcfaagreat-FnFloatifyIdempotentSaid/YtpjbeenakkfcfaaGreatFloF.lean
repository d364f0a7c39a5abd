/- Floatify: the walk at a binary node that converts. -/
import Derived.Test.YtpjbeenakkfcfaaGreatFloE
namespace Go.Proofs.YtpjbeenakkfcfaaGreat
open Go.RowKit Go.Deep

theorem Spine.nb_lt {code nb lb : Nat → Nat} {val : Nat → Int} {w : World} {j : Nat} (h : Spine code nb lb val w j) {i : Nat} (hi : i < j) : nb i < w.heap.size := by
  rcases h.level i hi with ⟨_, y⟩ | ⟨_, y⟩
  · exact lt_of_heap y
  · exact lt_of_heap y
theorem c13 (j q l : Nat) (s : ByteArray) (L : Value) : (if j = 0 then (nd0 [.string s, L, (.iface 53 (.pointer (some ⟨l, 0, none⟩)))]).setIfInBounds 12 (.iface 56 (.pointer (some ⟨q, 0, none⟩))) else nd0 [.string s, L, (.iface 53 (.pointer (some ⟨l, 0, none⟩)))])[13]? = some (.iface 53 (.pointer (some ⟨l, 0, none⟩))) := by
  split <;> simp [nd0]

set_option maxRecDepth 100000 in
set_option maxHeartbeats 2000000 in
theorem trav_bin {code nb lb : Nat → Nat} {val : Nat → Int} {j : Nat} (ih : TravAt code nb lb val j) (hap : Apart nb lb (j + 1)) (op : ByteArray) (b1 b2 b3 : Bool) (hop : opName (code j) = op) (h1 : (op.toList == [43]) = b1) (h2 : (op.toList == [45]) = b2) (h3' : (op.toList == [42]) = b3)
    (hb3 : b1 = true ∨ (b1 = false ∧ b2 = true) ∨ (b1 = false ∧ b2 = false ∧ b3 = true)) (h0 : code j ≠ 0) (h3 : code j ≤ 3) (w : World) (b off : Nat) (c : Array Value) (t : TypeId)
    (ha : w.heap[b]? = some (.cells c t (0, 0))) (hc : c[off]? = some (nodeV code nb lb (j + 1))) (hs : Spine code nb lb val w (j + 1)) (hbn : ∀ i, i < j + 1 → b ≠ nb i) :
    Calls Tryz.prog 16 #[.pointer (some ⟨b, off, none⟩), .agg nat0] w (TravPost code nb lb val w (j + 1) b off c t) := by
  have hn : nodeV code nb lb (j + 1) = (.iface 50 (.pointer (some ⟨nb j, 0, none⟩))) := by simp [nodeV, h0]
  have hlv := (hs.level j (by omega)).resolve_left (fun x => h0 x.1)
  have hll := hs.leaf (j + 1) (Nat.le_refl _) (Or.inr h0)
  have c0 : w.cell? ⟨b, off, none⟩ = some (.iface 50 (.pointer (some ⟨nb j, 0, none⟩))) := by rw [cell_of_block ha, hc, hn]
  have c1 : w.cell? ⟨nb j, 11, none⟩ = some (.string op) := by rw [cell_of_block hlv.2, ← hop]; rfl
  have l0 : b < w.heap.size := lt_of_heap ha
  have l1 : nb j < w.heap.size := lt_of_heap hlv.2
  have tBin := ta_hit Tryz.underlying50 41
  have oBin := ta_one Tryz.underlying50 41
  have tInt := ta_miss Tryz.underlying53 zInt (show 50 ≠ 53 by decide) 41
  have tUna := ta_miss Tryz.underlying74 zUna (show 50 ≠ 74 by decide) 41
  have HA := Lib.hid ha
  have HLL := Lib.hid hll
  have HC := Lib.hid (ih (w.alloc (.cells nat0 67)).drew (nb j) 12 (nd0 [.string (opName (code j)), nodeV code nb lb j, (.iface 53 (.pointer (some ⟨lb (j + 1), 0, none⟩)))]) 79 (by show (w.alloc _).heap[nb j]? = _; rw [alloc_old _ l1]; exact hlv.2) rfl
    ((hs.less).keep fun k o hk => by show (w.alloc _).heap[k]? = _; rw [alloc_old _ (lt_of_heap hk)]; exact hk) (fun i hi e => by have := hap.nodes j i (by omega) (by omega) e; omega) (fun i hi => hap.leaves j i (by omega) (by omega)))
  have HX := Lib.hid (show w.heap.size ∉ nb j :: blocks nb j from fun hm => by
    rcases List.mem_cons.1 hm with e | hm
    · omega
    · obtain ⟨i, hi, e⟩ := mem_blocks hm
      have := hs.nb_lt (i := i) (by omega)
      omega)
  have HY := Lib.hid (show lb (j + 1) ∉ nb j :: blocks nb j from fun hm => by
    rcases List.mem_cons.1 hm with e | hm
    · exact hap.leaves j (j + 1) (by omega) (by omega) e.symm
    · obtain ⟨i, hi, e⟩ := mem_blocks hm
      exact hap.leaves i (j + 1) (by omega) (by omega) e.symm)
  have H0 := Lib.hid h0
  have H3 := Lib.hid h3
  have HB := Lib.hid hbn
  have HP := Lib.hid hap
  clear ha hc hs hn hlv h0 hbn ih hap hll h3 hop
  go_enter Tryz.func16, Tryz.ntmps16
  rcases hb3 with rfl | ⟨rfl, rfl⟩ | ⟨rfl, rfl, rfl⟩
  all_goals
    go_wp2_with fail
    go_region_with (go_at_call 16; refine HC.out.mono ?_; rintro e w2 hp; obtain ⟨rfl, fb, hw, hn, hd⟩ := hp)
    all_goals
      have hw' : Wr (nb j :: blocks nb j) (w.alloc (.cells nat0 67)) w2 := ⟨hw.os, hw.tape, hw.output, hw.size, hw.block⟩
      have hbox := hw'.keep (alloc_new w (.cells nat0 67)) HX.out
      have hlf := hw'.keep (show (w.alloc (.cells nat0 67)).heap[lb (j + 1)]? = _ by rw [alloc_old _ (lt_of_heap HLL.out)]; exact HLL.out) HY.out
      have x0 : w2.cell? ⟨w.heap.size, 0, none⟩ = some .nilIface := by rw [cell_of_block hbox]; rfl
      have x1 : w2.cell? ⟨w.heap.size, 1, none⟩ = some (.int .u64 0) := by rw [cell_of_block hbox]; rfl
      have x2 : w2.cell? ⟨w.heap.size, 2, none⟩ = some (.pointer none) := by rw [cell_of_block hbox]; rfl
      have x3 : w2.cell? ⟨w.heap.size, 3, none⟩ = some (.pointer none) := by rw [cell_of_block hbox]; rfl
      have x4 : w2.cell? ⟨w.heap.size, 4, none⟩ = some (.bool false) := by rw [cell_of_block hbox]; rfl
      have x5 : w2.cell? ⟨w.heap.size, 5, none⟩ = some (.bool false) := by rw [cell_of_block hbox]; rfl
      have x6 : w2.cell? ⟨w.heap.size, 6, none⟩ = some (.bool false) := by rw [cell_of_block hbox]; rfl
      have x7 : w2.cell? ⟨w.heap.size, 7, none⟩ = some (.bool false) := by rw [cell_of_block hbox]; rfl
      have x8 : w2.cell? ⟨w.heap.size, 8, none⟩ = some (.bool false) := by rw [cell_of_block hbox]; rfl
      have HT := Lib.hid (trav_leaf (nb j) 13 (lb (j + 1)) _ 79 (val (j + 1)) w2.drew (show w2.heap[nb j]? = _ from hn) (c13 _ _ _ _ _) (show w2.heap[lb (j + 1)]? = _ from hlf))
      have HN := Lib.hid hn
      have HD := Lib.hid hd
      have HW := Lib.hid hw'
      have HF := Lib.hid hlf
      clear hw hw' hn hd hbox hlf
      go_wp2_with fail
      go_region_with (go_at_call 16; refine HT.out.mono ?_; rintro e w3 hp; obtain ⟨rfl, q, _, hw3, hn3, hf3⟩ := hp)
      all_goals
        have hp := Lib.hid (bin_done (off := off) H0.out H3.out HP.out HA.out HB.out HW.out HN.out HD.out HF.out (show Wr [nb j] w2 w3 from ⟨hw3.os, hw3.tape, hw3.output, hw3.size, hw3.block⟩) hn3 hf3)
        clear hw3 hn3 hf3
        go_end0
        exact hp.out
end Go.Proofs.YtpjbeenakkfcfaaGreat

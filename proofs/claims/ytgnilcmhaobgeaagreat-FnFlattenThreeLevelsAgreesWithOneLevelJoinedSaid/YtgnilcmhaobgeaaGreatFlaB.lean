/- Flatten: what reflect's entries answer at a slice, at an int. Printed by flagen.py. -/
import Derived.Test.YtgnilcmhaobgeaaGreatFlaA
import Derived.Laws.Externs
namespace Go.Proofs.YtgnilcmhaobgeaaGreat
open Go.RowKit Go.Deep

/-- a reflect.Value: type, place, flags -/
abbrev RV (t : TypeId) (a : Addr) (f : Int) : Value := .agg #[.pointer (some ⟨0, t, none⟩), .pointer (some a), .int .u64 f]

theorem len_1_get (a : Addr) (w : World) : (callFunc 15 #[RV 38 a 407]).run Tryz.prog w = (do let x ← load a; pure (Next.value (← Builtin.len_ #[38] 0 #[x])) : Sem Next).run Tryz.prog w := by kernel_rfl
theorem len_1 (a : Addr) (b : Option Addr) (n c : Nat) (w : World) (h : w.cell? a = some (.slice b n c)) : (callFunc 15 #[RV 38 a 407]).run Tryz.prog w = .ok (.value (.int .i64 n)) w := by
  rw [len_1_get]
  simp [go_sem, h]
theorem len_2_get (a : Addr) (w : World) : (callFunc 15 #[RV 36 a 151]).run Tryz.prog w = (do let x ← load a; pure (Next.value (← Builtin.len_ #[36] 0 #[x])) : Sem Next).run Tryz.prog w := by kernel_rfl
theorem len_2 (a : Addr) (b : Option Addr) (n c : Nat) (w : World) (h : w.cell? a = some (.slice b n c)) : (callFunc 15 #[RV 36 a 151]).run Tryz.prog w = .ok (.value (.int .i64 n)) w := by
  rw [len_2_get]
  simp [go_sem, h]
theorem len_2b_get (a : Addr) (w : World) : (callFunc 15 #[RV 36 a 407]).run Tryz.prog w = (do let x ← load a; pure (Next.value (← Builtin.len_ #[36] 0 #[x])) : Sem Next).run Tryz.prog w := by kernel_rfl
theorem len_2b (a : Addr) (b : Option Addr) (n c : Nat) (w : World) (h : w.cell? a = some (.slice b n c)) : (callFunc 15 #[RV 36 a 407]).run Tryz.prog w = .ok (.value (.int .i64 n)) w := by
  rw [len_2b_get]
  simp [go_sem, h]
theorem len_3_get (a : Addr) (w : World) : (callFunc 15 #[RV 42 a 151]).run Tryz.prog w = (do let x ← load a; pure (Next.value (← Builtin.len_ #[42] 0 #[x])) : Sem Next).run Tryz.prog w := by kernel_rfl
theorem len_3 (a : Addr) (b : Option Addr) (n c : Nat) (w : World) (h : w.cell? a = some (.slice b n c)) : (callFunc 15 #[RV 42 a 151]).run Tryz.prog w = .ok (.value (.int .i64 n)) w := by
  rw [len_3_get]
  simp [go_sem, h]
theorem findIdx : Extern.find Tryz.f17 = some Extern.ReflectWalk.index := by kernel_rfl
theorem findIdxN : Extern.findNext Tryz.f17 = none := by kernel_rfl
theorem idx_1_parts (a : Addr) (w : World) : (Extern.Rvalue.parts (RV 38 a 407)).run Tryz.prog w = .ok (some ⟨38, a, 407⟩) w := by kernel_rfl
theorem idx_1_get (a : Addr) (w : World) : (Extern.Rvalue.V.get ⟨38, a, 407⟩).run Tryz.prog w = (load a).run Tryz.prog w := by kernel_rfl
theorem idx_1_some : (Tryz.prog.info? 38).isSome = true := by kernel_rfl
theorem idx_1_under (w : World) : (Extern.Rtype.under 38).run Tryz.prog w = .ok (38, (Tryz.prog.info? 38).get idx_1_some) w := by kernel_rfl
theorem idx_1_desc : ((Tryz.prog.info? 38).get idx_1_some).desc = .slice 3 := by kernel_rfl
theorem idx_1_mk (x : Addr) (a : Addr) (w : World) : (Extern.Rvalue.mk 3 x (Extern.Rvalue.V.ro ⟨38, a, 407⟩ + Extern.Rvalue.flagAddr)).run Tryz.prog w = .ok (RV 3 x 386) w := by kernel_rfl
theorem idx_1_at (a : Addr) (b off n c i : Nat) (w : World) (h : w.cell? a = some (.slice (some ⟨b, off, none⟩) n c)) (hi : i < n) : (Extern.ReflectWalk.index #[RV 38 a 407, .int .i64 i]).run Tryz.prog w = .ok (RV 3 ⟨b, off + i, none⟩ 386) w := by
  have hg : (Extern.Rvalue.V.get ⟨38, a, 407⟩).run Tryz.prog w = .ok (.slice (some ⟨b, off, none⟩) n c) w := by rw [idx_1_get]; simp [go_sem, h]
  have hj := idx_1_under w
  have hd := idx_1_desc
  generalize (Tryz.prog.info? 38).get idx_1_some = j at hj hd
  unfold Extern.ReflectWalk.index Extern.Rvalue.method
  simp [go_sem, idx_1_parts, hj, hd, hg, hi, idx_1_mk]
theorem idx_1 (a : Addr) (b off n c i : Nat) (w : World) (h : w.cell? a = some (.slice (some ⟨b, off, none⟩) n c)) (hi : i < n) : (callFunc 17 #[RV 38 a 407, .int .i64 i]).run Tryz.prog w = .ok (.value (RV 3 ⟨b, off + i, none⟩ 386)) w := by
  rw [run_callFunc_extern Tryz.func17 (by kernel_rfl) (by kernel_rfl) findIdxN findIdx, idx_1_at a b off n c i w h hi]
  rfl
theorem idx_2_parts (a : Addr) (w : World) : (Extern.Rvalue.parts (RV 36 a 151)).run Tryz.prog w = .ok (some ⟨36, a, 151⟩) w := by kernel_rfl
theorem idx_2_get (a : Addr) (w : World) : (Extern.Rvalue.V.get ⟨36, a, 151⟩).run Tryz.prog w = (load a).run Tryz.prog w := by kernel_rfl
theorem idx_2_some : (Tryz.prog.info? 36).isSome = true := by kernel_rfl
theorem idx_2_under (w : World) : (Extern.Rtype.under 36).run Tryz.prog w = .ok (36, (Tryz.prog.info? 36).get idx_2_some) w := by kernel_rfl
theorem idx_2_desc : ((Tryz.prog.info? 36).get idx_2_some).desc = .slice 38 := by kernel_rfl
theorem idx_2_mk (x : Addr) (a : Addr) (w : World) : (Extern.Rvalue.mk 38 x (Extern.Rvalue.V.ro ⟨36, a, 151⟩ + Extern.Rvalue.flagAddr)).run Tryz.prog w = .ok (RV 38 x 407) w := by kernel_rfl
theorem idx_2_at (a : Addr) (b off n c i : Nat) (w : World) (h : w.cell? a = some (.slice (some ⟨b, off, none⟩) n c)) (hi : i < n) : (Extern.ReflectWalk.index #[RV 36 a 151, .int .i64 i]).run Tryz.prog w = .ok (RV 38 ⟨b, off + i, none⟩ 407) w := by
  have hg : (Extern.Rvalue.V.get ⟨36, a, 151⟩).run Tryz.prog w = .ok (.slice (some ⟨b, off, none⟩) n c) w := by rw [idx_2_get]; simp [go_sem, h]
  have hj := idx_2_under w
  have hd := idx_2_desc
  generalize (Tryz.prog.info? 36).get idx_2_some = j at hj hd
  unfold Extern.ReflectWalk.index Extern.Rvalue.method
  simp [go_sem, idx_2_parts, hj, hd, hg, hi, idx_2_mk]
theorem idx_2 (a : Addr) (b off n c i : Nat) (w : World) (h : w.cell? a = some (.slice (some ⟨b, off, none⟩) n c)) (hi : i < n) : (callFunc 17 #[RV 36 a 151, .int .i64 i]).run Tryz.prog w = .ok (.value (RV 38 ⟨b, off + i, none⟩ 407)) w := by
  rw [run_callFunc_extern Tryz.func17 (by kernel_rfl) (by kernel_rfl) findIdxN findIdx, idx_2_at a b off n c i w h hi]
  rfl
theorem idx_2b_parts (a : Addr) (w : World) : (Extern.Rvalue.parts (RV 36 a 407)).run Tryz.prog w = .ok (some ⟨36, a, 407⟩) w := by kernel_rfl
theorem idx_2b_get (a : Addr) (w : World) : (Extern.Rvalue.V.get ⟨36, a, 407⟩).run Tryz.prog w = (load a).run Tryz.prog w := by kernel_rfl
theorem idx_2b_some : (Tryz.prog.info? 36).isSome = true := by kernel_rfl
theorem idx_2b_under (w : World) : (Extern.Rtype.under 36).run Tryz.prog w = .ok (36, (Tryz.prog.info? 36).get idx_2b_some) w := by kernel_rfl
theorem idx_2b_desc : ((Tryz.prog.info? 36).get idx_2b_some).desc = .slice 38 := by kernel_rfl
theorem idx_2b_mk (x : Addr) (a : Addr) (w : World) : (Extern.Rvalue.mk 38 x (Extern.Rvalue.V.ro ⟨36, a, 407⟩ + Extern.Rvalue.flagAddr)).run Tryz.prog w = .ok (RV 38 x 407) w := by kernel_rfl
theorem idx_2b_at (a : Addr) (b off n c i : Nat) (w : World) (h : w.cell? a = some (.slice (some ⟨b, off, none⟩) n c)) (hi : i < n) : (Extern.ReflectWalk.index #[RV 36 a 407, .int .i64 i]).run Tryz.prog w = .ok (RV 38 ⟨b, off + i, none⟩ 407) w := by
  have hg : (Extern.Rvalue.V.get ⟨36, a, 407⟩).run Tryz.prog w = .ok (.slice (some ⟨b, off, none⟩) n c) w := by rw [idx_2b_get]; simp [go_sem, h]
  have hj := idx_2b_under w
  have hd := idx_2b_desc
  generalize (Tryz.prog.info? 36).get idx_2b_some = j at hj hd
  unfold Extern.ReflectWalk.index Extern.Rvalue.method
  simp [go_sem, idx_2b_parts, hj, hd, hg, hi, idx_2b_mk]
theorem idx_2b (a : Addr) (b off n c i : Nat) (w : World) (h : w.cell? a = some (.slice (some ⟨b, off, none⟩) n c)) (hi : i < n) : (callFunc 17 #[RV 36 a 407, .int .i64 i]).run Tryz.prog w = .ok (.value (RV 38 ⟨b, off + i, none⟩ 407)) w := by
  rw [run_callFunc_extern Tryz.func17 (by kernel_rfl) (by kernel_rfl) findIdxN findIdx, idx_2b_at a b off n c i w h hi]
  rfl
theorem idx_3_parts (a : Addr) (w : World) : (Extern.Rvalue.parts (RV 42 a 151)).run Tryz.prog w = .ok (some ⟨42, a, 151⟩) w := by kernel_rfl
theorem idx_3_get (a : Addr) (w : World) : (Extern.Rvalue.V.get ⟨42, a, 151⟩).run Tryz.prog w = (load a).run Tryz.prog w := by kernel_rfl
theorem idx_3_some : (Tryz.prog.info? 42).isSome = true := by kernel_rfl
theorem idx_3_under (w : World) : (Extern.Rtype.under 42).run Tryz.prog w = .ok (42, (Tryz.prog.info? 42).get idx_3_some) w := by kernel_rfl
theorem idx_3_desc : ((Tryz.prog.info? 42).get idx_3_some).desc = .slice 36 := by kernel_rfl
theorem idx_3_mk (x : Addr) (a : Addr) (w : World) : (Extern.Rvalue.mk 36 x (Extern.Rvalue.V.ro ⟨42, a, 151⟩ + Extern.Rvalue.flagAddr)).run Tryz.prog w = .ok (RV 36 x 407) w := by kernel_rfl
theorem idx_3_at (a : Addr) (b off n c i : Nat) (w : World) (h : w.cell? a = some (.slice (some ⟨b, off, none⟩) n c)) (hi : i < n) : (Extern.ReflectWalk.index #[RV 42 a 151, .int .i64 i]).run Tryz.prog w = .ok (RV 36 ⟨b, off + i, none⟩ 407) w := by
  have hg : (Extern.Rvalue.V.get ⟨42, a, 151⟩).run Tryz.prog w = .ok (.slice (some ⟨b, off, none⟩) n c) w := by rw [idx_3_get]; simp [go_sem, h]
  have hj := idx_3_under w
  have hd := idx_3_desc
  generalize (Tryz.prog.info? 42).get idx_3_some = j at hj hd
  unfold Extern.ReflectWalk.index Extern.Rvalue.method
  simp [go_sem, idx_3_parts, hj, hd, hg, hi, idx_3_mk]
theorem idx_3 (a : Addr) (b off n c i : Nat) (w : World) (h : w.cell? a = some (.slice (some ⟨b, off, none⟩) n c)) (hi : i < n) : (callFunc 17 #[RV 42 a 151, .int .i64 i]).run Tryz.prog w = .ok (.value (RV 36 ⟨b, off + i, none⟩ 407)) w := by
  rw [run_callFunc_extern Tryz.func17 (by kernel_rfl) (by kernel_rfl) findIdxN findIdx, idx_3_at a b off n c i w h hi]
  rfl
theorem kind_0 (a : Addr) (w : World) : (callFunc 18 #[RV 3 a 386]).run Tryz.prog w = .ok (.value (.int .u64 2)) w := by kernel_rfl
theorem kind_1 (a : Addr) (w : World) : (callFunc 18 #[RV 38 a 407]).run Tryz.prog w = .ok (.value (.int .u64 23)) w := by kernel_rfl
theorem kind_2 (a : Addr) (w : World) : (callFunc 18 #[RV 36 a 407]).run Tryz.prog w = .ok (.value (.int .u64 23)) w := by kernel_rfl
theorem intf_get (a : Addr) (w : World) : (callFunc 19 #[RV 3 a 386]).run Tryz.prog w = (do let x ← load a; pure (Next.value (.iface 3 x)) : Sem Next).run Tryz.prog w := by kernel_rfl
theorem intf_0 (a : Addr) (y : Int) (w : World) (h : w.cell? a = some (.int .i64 y)) : (callFunc 19 #[RV 3 a 386]).run Tryz.prog w = .ok (.value (.iface 3 (.int .i64 y))) w := by
  rw [intf_get]
  simp [go_sem, h]
theorem valueOf_2 (a : Option Addr) (l c : Nat) (w : World) : (callFunc 13 #[.iface 36 (.slice a l c)]).run Tryz.prog w = .ok (.value (RV 36 ⟨w.heap.size, 0, none⟩ 151)) (w.alloc (.cells #[.slice a l c] 36)) := by kernel_rfl
theorem valueOf_3 (a : Option Addr) (l c : Nat) (w : World) : (callFunc 13 #[.iface 42 (.slice a l c)]).run Tryz.prog w = .ok (.value (RV 42 ⟨w.heap.size, 0, none⟩ 151)) (w.alloc (.cells #[.slice a l c] 42)) := by kernel_rfl
end Go.Proofs.YtgnilcmhaobgeaaGreat

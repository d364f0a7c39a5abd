/- inRange's Visit leaves the tree alone, case by case. Printed by rangegen.py. -/
import Derived.Test.YtgpbhigjmkkofaaGreatRangeA
import Derived.Test.YtgpbhigjmkkofaaGreatCountC
namespace Go.Proofs.YtgpbhigjmkkofaaGreat
open Go.RowKit Go.Deep

set_option maxRecDepth 100000 in
set_option maxHeartbeats 1000000 in
theorem type_rt_same (p : Nat) (t : TypeId) (w : World) (hc : w.cell? ⟨p, 2, none⟩ = some (rt t)) :
    Calls Tryz.prog 89 #[.pointer (some ⟨p, 0, none⟩)] w fun e w' => e = .returned (rt t) ∧ w = w' := by
  have h1 := eqNilRt t
  go_enter Tryz.func89, Tryz.ntmps89
  go_wp2_with fail
  go_ret
  exact ⟨rfl, rfl⟩

set_option maxRecDepth 100000 in
set_option maxHeartbeats 1000000 in
theorem type_rt (p : Nat) (t : TypeId) (w : World) (hc : w.cell? ⟨p, 2, none⟩ = some (rt t)) :
    Calls Tryz.prog 89 #[.pointer (some ⟨p, 0, none⟩)] w fun e w' => e = .returned (rt t) ∧ Below w.heap.size w w' := by
  have h1 := eqNilRt t
  go_enter Tryz.func89, Tryz.ntmps89
  go_wp2_with fail
  go_ret
  exact ⟨rfl, Below.refl _ _⟩

theorem hasIdType (p : Nat) (w : World) : (method 880 37 (.pointer (some ⟨p, 0, none⟩)) "Type").run Tryz.prog w = .ok (89, .pointer (some ⟨p, 0, none⟩)) w := by kernel_rfl

set_option maxRecDepth 100000 in
set_option maxHeartbeats 1000000 in
theorem inr_eq (r R : Value) (a pb pl : Nat) (w : World) (ha : w.heap[a]? = some (.cells #[(.iface 60 (.pointer (some ⟨pb, 0, none⟩)))] 59 (0, 0))) (hb : w.heap[pb]? = some (.cells (nd0 [.string ⟨#[61, 61]⟩, (.iface 37 (.pointer (some ⟨pl, 0, none⟩))), R]) 66 (0, 0))) :
    Calls Tryz.prog 31 #[r, (.pointer (some ⟨a, 0, none⟩))] w (Kept w) := by
  have c0 : w.cell? ⟨a, 0, none⟩ = some (.iface 60 (.pointer (some ⟨pb, 0, none⟩))) := by rw [cell_of_block ha]; rfl
  have c1 : w.cell? ⟨pb, 11, none⟩ = some (.string ⟨#[61, 61]⟩) := by rw [cell_of_block hb]; rfl
  have c2 : w.cell? ⟨pb, 12, none⟩ = some (.iface 37 (.pointer (some ⟨pl, 0, none⟩))) := by rw [cell_of_block hb]; rfl
  have tBin := ta_hit Tryz.underlying60 59
  clear ha hb c2
  go_enter Tryz.func31, Tryz.ntmps31
  go_wp2_with fail
  all_goals first
    | (go_end0; exact ⟨rfl, Below.refl _ _⟩)
    | (refine bodyPost_ret (results_none rfl _ _ _) rfl ?_; exact ⟨rfl, Below.refl _ _⟩)

set_option maxRecDepth 100000 in
set_option maxHeartbeats 1000000 in
theorem inr_any (r R : Value) (a pb pl : Nat) (w : World) (ha : w.heap[a]? = some (.cells #[(.iface 60 (.pointer (some ⟨pb, 0, none⟩)))] 59 (0, 0))) (hb : w.heap[pb]? = some (.cells (nd0 [.string ⟨#[105, 110]⟩, (.iface 37 (.pointer (some ⟨pl, 0, none⟩))), R]) 66 (0, 0))) (hl : w.cell? ⟨pl, 2, none⟩ = some (.nilIface)) :
    Calls Tryz.prog 31 #[r, (.pointer (some ⟨a, 0, none⟩))] w (Kept w) := by
  have c0 : w.cell? ⟨a, 0, none⟩ = some (.iface 60 (.pointer (some ⟨pb, 0, none⟩))) := by rw [cell_of_block ha]; rfl
  have c1 : w.cell? ⟨pb, 11, none⟩ = some (.string ⟨#[105, 110]⟩) := by rw [cell_of_block hb]; rfl
  have c2 : w.cell? ⟨pb, 12, none⟩ = some (.iface 37 (.pointer (some ⟨pl, 0, none⟩))) := by rw [cell_of_block hb]; rfl
  have tBin := ta_hit Tryz.underlying60 59
  have h1 := hasIdType pl
  have h2 := mKind 20
  rw [tsize] at h2
  have h3 := cKindAny
  have h4 := eqNilRt 20
  clear ha hb
  go_enter Tryz.func31, Tryz.ntmps31
  go_wp2_with fail
  refine (type_any pl _ hl).mono ?_
  rintro e w1 ⟨rfl, hb1⟩
  go_wp2_with fail
  all_goals first
    | (go_end0; exact ⟨rfl, hb1⟩)
    | (refine bodyPost_ret (results_none rfl _ _ _) rfl ?_; exact ⟨rfl, hb1⟩)

set_option maxRecDepth 100000 in
set_option maxHeartbeats 1000000 in
theorem inr_str (r R : Value) (a pb pl : Nat) (w : World) (ha : w.heap[a]? = some (.cells #[(.iface 60 (.pointer (some ⟨pb, 0, none⟩)))] 59 (0, 0))) (hb : w.heap[pb]? = some (.cells (nd0 [.string ⟨#[105, 110]⟩, (.iface 37 (.pointer (some ⟨pl, 0, none⟩))), R]) 66 (0, 0))) (hl : w.cell? ⟨pl, 2, none⟩ = some strTy) :
    Calls Tryz.prog 31 #[r, (.pointer (some ⟨a, 0, none⟩))] w (Kept w) := by
  have c0 : w.cell? ⟨a, 0, none⟩ = some (.iface 60 (.pointer (some ⟨pb, 0, none⟩))) := by rw [cell_of_block ha]; rfl
  have c1 : w.cell? ⟨pb, 11, none⟩ = some (.string ⟨#[105, 110]⟩) := by rw [cell_of_block hb]; rfl
  have c2 : w.cell? ⟨pb, 12, none⟩ = some (.iface 37 (.pointer (some ⟨pl, 0, none⟩))) := by rw [cell_of_block hb]; rfl
  have tBin := ta_hit Tryz.underlying60 59
  have h1 := hasIdType pl
  have h2 := mKind 9
  rw [tsize] at h2
  have h3 := cKindStr
  have h4 := eqNilRt 9
  clear ha hb
  go_enter Tryz.func31, Tryz.ntmps31
  go_wp2_with fail
  refine (type_rt pl _ _ hl).mono ?_
  rintro e w1 ⟨rfl, hb1⟩
  go_wp2_with fail
  all_goals first
    | (go_end0; exact ⟨rfl, hb1⟩)
    | (refine bodyPost_ret (results_none rfl _ _ _) rfl ?_; exact ⟨rfl, hb1⟩)

set_option maxRecDepth 100000 in
set_option maxHeartbeats 1000000 in
theorem inr_int_arr (r : Value) (a pb pl : Nat) (tR : TypeId) (p : Nat) (w : World) (ha : w.heap[a]? = some (.cells #[(.iface 60 (.pointer (some ⟨pb, 0, none⟩)))] 59 (0, 0))) (hb : w.heap[pb]? = some (.cells (nd0 [.string ⟨#[105, 110]⟩, (.iface 37 (.pointer (some ⟨pl, 0, none⟩))), .iface tR (.pointer (some ⟨p, 0, none⟩))]) 66 (0, 0))) (hl : w.cell? ⟨pl, 2, none⟩ = some intTy)
    (hR : tR ≠ 60) :
    Calls Tryz.prog 31 #[r, (.pointer (some ⟨a, 0, none⟩))] w (Kept w) := by
  have c0 : w.cell? ⟨a, 0, none⟩ = some (.iface 60 (.pointer (some ⟨pb, 0, none⟩))) := by rw [cell_of_block ha]; rfl
  have c1 : w.cell? ⟨pb, 11, none⟩ = some (.string ⟨#[105, 110]⟩) := by rw [cell_of_block hb]; rfl
  have c2 : w.cell? ⟨pb, 12, none⟩ = some (.iface 37 (.pointer (some ⟨pl, 0, none⟩))) := by rw [cell_of_block hb]; rfl
  have c3 : w.cell? ⟨pb, 13, none⟩ = some (.iface tR (.pointer (some ⟨p, 0, none⟩))) := by rw [cell_of_block hb]; rfl
  have tBin := ta_hit Tryz.underlying60 59
  have tR1 := ta_miss Tryz.underlying60 zBin hR 59
  have h1 := hasIdType pl
  have h2 := mKind 3
  rw [tsize] at h2
  have h3 := cKindInt
  have h4 := eqNilRt 3
  clear ha hb
  go_enter Tryz.func31, Tryz.ntmps31
  go_wp2_with fail
  refine (type_rt_same pl _ _ hl).mono ?_
  rintro e w' ⟨rfl, rfl⟩
  go_wp2_with fail
  all_goals first
    | (go_end0; exact ⟨rfl, Below.refl _ _⟩)
    | (refine bodyPost_ret (results_none rfl _ _ _) rfl ?_; exact ⟨rfl, Below.refl _ _⟩)

set_option maxRecDepth 100000 in
set_option maxHeartbeats 1000000 in
theorem inr_int_plus (r : Value) (a pb pl : Nat) (pr : Nat) (F T : Value) (w : World) (ha : w.heap[a]? = some (.cells #[(.iface 60 (.pointer (some ⟨pb, 0, none⟩)))] 59 (0, 0))) (hb : w.heap[pb]? = some (.cells (nd0 [.string ⟨#[105, 110]⟩, (.iface 37 (.pointer (some ⟨pl, 0, none⟩))), (.iface 60 (.pointer (some ⟨pr, 0, none⟩)))]) 66 (0, 0))) (hl : w.cell? ⟨pl, 2, none⟩ = some intTy)
    (hr : w.heap[pr]? = some (.cells (nd0 [.string ⟨#[43]⟩, F, T]) 66 (0, 0))) :
    Calls Tryz.prog 31 #[r, (.pointer (some ⟨a, 0, none⟩))] w (Kept w) := by
  have c0 : w.cell? ⟨a, 0, none⟩ = some (.iface 60 (.pointer (some ⟨pb, 0, none⟩))) := by rw [cell_of_block ha]; rfl
  have c1 : w.cell? ⟨pb, 11, none⟩ = some (.string ⟨#[105, 110]⟩) := by rw [cell_of_block hb]; rfl
  have c2 : w.cell? ⟨pb, 12, none⟩ = some (.iface 37 (.pointer (some ⟨pl, 0, none⟩))) := by rw [cell_of_block hb]; rfl
  have c3 : w.cell? ⟨pb, 13, none⟩ = some (.iface 60 (.pointer (some ⟨pr, 0, none⟩))) := by rw [cell_of_block hb]; rfl
  have d1 : w.cell? ⟨pr, 11, none⟩ = some (.string ⟨#[43]⟩) := by rw [cell_of_block hr]; rfl
  have tBin := ta_hit Tryz.underlying60 59
  have h1 := hasIdType pl
  have h2 := mKind 3
  rw [tsize] at h2
  have h3 := cKindInt
  have h4 := eqNilRt 3
  clear ha hb hr
  go_enter Tryz.func31, Tryz.ntmps31
  go_wp2_with fail
  refine (type_rt_same pl _ _ hl).mono ?_
  rintro e w' ⟨rfl, rfl⟩
  go_wp2_with fail
  all_goals first
    | (go_end0; exact ⟨rfl, Below.refl _ _⟩)
    | (refine bodyPost_ret (results_none rfl _ _ _) rfl ?_; exact ⟨rfl, Below.refl _ _⟩)

set_option maxRecDepth 100000 in
set_option maxHeartbeats 1000000 in
theorem inr_int_from (r : Value) (a pb pl : Nat) (tF : TypeId) (pr p : Nat) (T : Value) (w : World) (ha : w.heap[a]? = some (.cells #[(.iface 60 (.pointer (some ⟨pb, 0, none⟩)))] 59 (0, 0))) (hb : w.heap[pb]? = some (.cells (nd0 [.string ⟨#[105, 110]⟩, (.iface 37 (.pointer (some ⟨pl, 0, none⟩))), (.iface 60 (.pointer (some ⟨pr, 0, none⟩)))]) 66 (0, 0))) (hl : w.cell? ⟨pl, 2, none⟩ = some intTy)
    (hr : w.heap[pr]? = some (.cells (nd0 [.string ⟨#[46, 46]⟩, .iface tF (.pointer (some ⟨p, 0, none⟩)), T]) 66 (0, 0))) (hF : tF ≠ 39) :
    Calls Tryz.prog 31 #[r, (.pointer (some ⟨a, 0, none⟩))] w (Kept w) := by
  have c0 : w.cell? ⟨a, 0, none⟩ = some (.iface 60 (.pointer (some ⟨pb, 0, none⟩))) := by rw [cell_of_block ha]; rfl
  have c1 : w.cell? ⟨pb, 11, none⟩ = some (.string ⟨#[105, 110]⟩) := by rw [cell_of_block hb]; rfl
  have c2 : w.cell? ⟨pb, 12, none⟩ = some (.iface 37 (.pointer (some ⟨pl, 0, none⟩))) := by rw [cell_of_block hb]; rfl
  have c3 : w.cell? ⟨pb, 13, none⟩ = some (.iface 60 (.pointer (some ⟨pr, 0, none⟩))) := by rw [cell_of_block hb]; rfl
  have d1 : w.cell? ⟨pr, 11, none⟩ = some (.string ⟨#[46, 46]⟩) := by rw [cell_of_block hr]; rfl
  have d2 : w.cell? ⟨pr, 12, none⟩ = some (.iface tF (.pointer (some ⟨p, 0, none⟩))) := by rw [cell_of_block hr]; rfl
  have tBin := ta_hit Tryz.underlying60 59
  have tF1 := ta_miss Tryz.underlying39 zInt hF 59
  have h1 := hasIdType pl
  have h2 := mKind 3
  rw [tsize] at h2
  have h3 := cKindInt
  have h4 := eqNilRt 3
  clear ha hb hr
  go_enter Tryz.func31, Tryz.ntmps31
  go_wp2_with fail
  refine (type_rt_same pl _ _ hl).mono ?_
  rintro e w' ⟨rfl, rfl⟩
  go_wp2_with fail
  all_goals first
    | (go_end0; exact ⟨rfl, Below.refl _ _⟩)
    | (refine bodyPost_ret (results_none rfl _ _ _) rfl ?_; exact ⟨rfl, Below.refl _ _⟩)

set_option maxRecDepth 100000 in
set_option maxHeartbeats 1000000 in
theorem inr_int_to (r : Value) (a pb pl : Nat) (tT : TypeId) (pr pf p : Nat) (w : World) (ha : w.heap[a]? = some (.cells #[(.iface 60 (.pointer (some ⟨pb, 0, none⟩)))] 59 (0, 0))) (hb : w.heap[pb]? = some (.cells (nd0 [.string ⟨#[105, 110]⟩, (.iface 37 (.pointer (some ⟨pl, 0, none⟩))), (.iface 60 (.pointer (some ⟨pr, 0, none⟩)))]) 66 (0, 0))) (hl : w.cell? ⟨pl, 2, none⟩ = some intTy)
    (hr : w.heap[pr]? = some (.cells (nd0 [.string ⟨#[46, 46]⟩, (.iface 39 (.pointer (some ⟨pf, 0, none⟩))), .iface tT (.pointer (some ⟨p, 0, none⟩))]) 66 (0, 0))) (hT : tT ≠ 39) :
    Calls Tryz.prog 31 #[r, (.pointer (some ⟨a, 0, none⟩))] w (Kept w) := by
  have c0 : w.cell? ⟨a, 0, none⟩ = some (.iface 60 (.pointer (some ⟨pb, 0, none⟩))) := by rw [cell_of_block ha]; rfl
  have c1 : w.cell? ⟨pb, 11, none⟩ = some (.string ⟨#[105, 110]⟩) := by rw [cell_of_block hb]; rfl
  have c2 : w.cell? ⟨pb, 12, none⟩ = some (.iface 37 (.pointer (some ⟨pl, 0, none⟩))) := by rw [cell_of_block hb]; rfl
  have c3 : w.cell? ⟨pb, 13, none⟩ = some (.iface 60 (.pointer (some ⟨pr, 0, none⟩))) := by rw [cell_of_block hb]; rfl
  have d1 : w.cell? ⟨pr, 11, none⟩ = some (.string ⟨#[46, 46]⟩) := by rw [cell_of_block hr]; rfl
  have d2 : w.cell? ⟨pr, 12, none⟩ = some (.iface 39 (.pointer (some ⟨pf, 0, none⟩))) := by rw [cell_of_block hr]; rfl
  have d3 : w.cell? ⟨pr, 13, none⟩ = some (.iface tT (.pointer (some ⟨p, 0, none⟩))) := by rw [cell_of_block hr]; rfl
  have tBin := ta_hit Tryz.underlying60 59
  have tInt := ta_hit Tryz.underlying39 59
  have tT1 := ta_miss Tryz.underlying39 zInt hT 59
  have h1 := hasIdType pl
  have h2 := mKind 3
  rw [tsize] at h2
  have h3 := cKindInt
  have h4 := eqNilRt 3
  clear ha hb hr
  go_enter Tryz.func31, Tryz.ntmps31
  go_wp2_with fail
  refine (type_rt_same pl _ _ hl).mono ?_
  rintro e w' ⟨rfl, rfl⟩
  go_wp2_with fail
  all_goals first
    | (go_end0; exact ⟨rfl, Below.refl _ _⟩)
    | (refine bodyPost_ret (results_none rfl _ _ _) rfl ?_; exact ⟨rfl, Below.refl _ _⟩)
end Go.Proofs.YtgpbhigjmkkofaaGreat

/- Floatify: opName, ZZasFloat, ZZasInt, ZZfloatify: what they answer. -/
import Derived.Test.YtpjbeenakkfcfaaGreatFloJ
import Derived.Test.YtpjbeenakkfcfaaGreatFloN
namespace Go.Proofs.YtpjbeenakkfcfaaGreat
open Go.RowKit Go.Deep

set_option maxRecDepth 100000 in
set_option maxHeartbeats 1000000 in
theorem opName_any (c : Nat) (h1 : 1 ≤ c) (h2 : c ≤ 6) (w : World) : Calls Tryz.prog 15 #[.int .u8 c] w fun e w' => e = .returned (.string (opName c)) ∧ w = w' := by
  rcases (by omega : c = 1 ∨ c = 2 ∨ c = 3 ∨ c = 4 ∨ c = 5 ∨ c = 6) with rfl | rfl | rfl | rfl | rfl | rfl
  all_goals
    go_enter Tryz.func15, Tryz.ntmps15
    go_wp2_with fail
    go_ret
    exact ⟨rfl, rfl⟩

set_option maxRecDepth 100000 in
set_option maxHeartbeats 1000000 in
theorem asFloat_flo (q : Nat) (w : World) : Calls Tryz.prog 13 #[(.iface 56 (.pointer (some ⟨q, 0, none⟩)))] w fun e w' => e = .returned (ptr q) ∧ w = w' := by
  have t1 := ta_hit Tryz.underlying56 41
  go_enter Tryz.func13, Tryz.ntmps13
  go_wp2_with fail
  go_ret
  exact ⟨rfl, rfl⟩
set_option maxRecDepth 100000 in
set_option maxHeartbeats 1000000 in
theorem asFloat_int (q : Nat) (w : World) : Calls Tryz.prog 13 #[(.iface 53 (.pointer (some ⟨q, 0, none⟩)))] w fun e w' => e = .returned (.pointer none) ∧ w = w' := by
  have t1 := ta_miss Tryz.underlying56 zFlo (show 53 ≠ 56 by decide) 41
  go_enter Tryz.func13, Tryz.ntmps13
  go_wp2_with fail
  go_ret
  exact ⟨rfl, rfl⟩
set_option maxRecDepth 100000 in
set_option maxHeartbeats 1000000 in
theorem asInt_int (q : Nat) (w : World) : Calls Tryz.prog 14 #[(.iface 53 (.pointer (some ⟨q, 0, none⟩)))] w fun e w' => e = .returned (ptr q) ∧ w = w' := by
  have t1 := ta_hit Tryz.underlying53 41
  go_enter Tryz.func14, Tryz.ntmps14
  go_wp2_with fail
  go_ret
  exact ⟨rfl, rfl⟩
set_option maxRecDepth 100000 in
set_option maxHeartbeats 1000000 in
theorem asInt_flo (q : Nat) (w : World) : Calls Tryz.prog 14 #[(.iface 56 (.pointer (some ⟨q, 0, none⟩)))] w fun e w' => e = .returned (.pointer none) ∧ w = w' := by
  have t1 := ta_miss Tryz.underlying53 zInt (show 56 ≠ 53 by decide) 41
  go_enter Tryz.func14, Tryz.ntmps14
  go_wp2_with fail
  go_ret
  exact ⟨rfl, rfl⟩

set_option maxRecDepth 100000 in
set_option maxHeartbeats 1000000 in
theorem floatify_of {b off : Nat} {w : World} {Q : Ending → World → Prop}
    (h : Calls Tryz.prog 16 #[.pointer (some ⟨b, off, none⟩), .agg nat0] w fun e w' => e = .returned (.tuple #[]) ∧ Q e w') :
    Calls Tryz.prog 9 #[.pointer (some ⟨b, off, none⟩)] w Q := by
  have H := Lib.hid h
  clear h
  go_enter Tryz.func9, Tryz.ntmps9
  go_wp2_with fail
  refine H.out.mono ?_
  rintro e w' ⟨rfl, hq⟩
  have HQ := Lib.hid hq
  clear hq
  go_wp2_with fail
  go_end0
  exact HQ.out
end Go.Proofs.YtpjbeenakkfcfaaGreat

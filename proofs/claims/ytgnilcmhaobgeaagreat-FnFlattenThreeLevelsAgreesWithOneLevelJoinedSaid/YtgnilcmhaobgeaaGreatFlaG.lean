/- Flatten: the size tests. -/
import Derived.Test.YtgnilcmhaobgeaaGreatFlaA
import Derived.Test.YtgnilcmhaobgeaaGreatFlaL
namespace Go.Proofs.YtgnilcmhaobgeaaGreat
open Go.RowKit Go.Deep

/-- some bool, the world as it was; true only where Q -/
def BoolIf (Q : Prop) (w : World) (e : Ending) (w' : World) : Prop := ∃ b : Bool, e = .returned (.bool b) ∧ (b = true → Q) ∧ w = w'
/-- the first k are not long -/
def Short {α : Type} (M : List (List α)) (k : Nat) : Prop := ∀ i x, i < k → M[i]? = some x → x.length ≤ 1048576
theorem Short.zero {α : Type} (M : List (List α)) : Short M 0 := fun _ _ h _ => by omega
theorem Short.succ {α : Type} {M : List (List α)} {k : Nat} {x : List α} (h : Short M k) (hx : M[k]? = some x) (hl : x.length ≤ 1048576) : Short M (k + 1) := fun i y hi hy => by
  by_cases e : i = k
  · subst e
    rw [hx] at hy
    injection hy with hy
    subst hy
    exact hl
  · exact h i y (by omega) hy
theorem Short.all {α : Type} {M : List (List α)} (h : Short M M.length) : ∀ x ∈ M, x.length ≤ 1048576 := fun x hx => by
  obtain ⟨k, hk⟩ := List.getElem?_of_mem hx
  exact h k x (List.getElem?_eq_some_iff.1 hk).1 hk
def Short2 (M : List (List (List Int))) (k : Nat) : Prop := ∀ i x, i < k → M[i]? = some x → ∀ y ∈ x, y.length ≤ 1048576
theorem Short2.zero (M : List (List (List Int))) : Short2 M 0 := fun _ _ h _ => by omega
theorem Short2.succ {M : List (List (List Int))} {k : Nat} {x : List (List Int)} (h : Short2 M k) (hx : M[k]? = some x) (hl : ∀ y ∈ x, y.length ≤ 1048576) : Short2 M (k + 1) := fun i y hi hy => by
  by_cases e : i = k
  · subst e
    rw [hx] at hy
    injection hy with hy
    subst hy
    exact hl
  · exact h i y (by omega) hy
theorem Short2.all {M : List (List (List Int))} (h : Short2 M M.length) : ∀ x ∈ M, ∀ y ∈ x, y.length ≤ 1048576 := fun x hx => by
  obtain ⟨k, hk⟩ := List.getElem?_of_mem hx
  exact h k x (List.getElem?_eq_some_iff.1 hk).1 hk

set_option maxRecDepth 100000 in
set_option maxHeartbeats 1000000 in
theorem bytes2 (v : Value) (M : List (List Int)) (d : Int) (w : World) (h : In2 w v M) : Calls Tryz.prog 5 #[v, .int .i64 d] w (BoolIf (∀ x ∈ M, x.length ≤ 1048576) w) := by
  obtain ⟨a, c, rfl⟩ := h.shape
  have hlen := h.len.2
  unfold maxLen at hlen
  have HX := Lib.hid h
  clear h
  go_enter Tryz.func5, Tryz.ntmps5
  go_wp2_with fail
  all_goals first
    | (go_ret; exact ⟨_, rfl, (fun h => by cases h), rfl⟩)
    | skip
  go_loop [5, 6] (fun n i => ∃ (k : Nat) (s : Int), k ≤ M.length ∧ 0 ≤ s ∧ s ≤ 1048576 ∧ i = .int .i64 k ∧ n = .int .i64 s ∧ Short M k) (fun _ i => M.length - (intOf i).toNat)
  case atStart => exact ⟨0, _, Nat.zero_le _, by omega, by omega, rfl, rfl, Short.zero _⟩
  case round =>
    obtain ⟨k, s, hk, hs1, hs2, rfl, rfl, hsh⟩ := hrel
    have HSH := Lib.hid hsh
    clear hsh
    by_cases hlt : k < M.length
    · obtain ⟨b, off, u, x, ha, hx, hc, hu⟩ := HX.out.at hlt
      subst ha
      obtain ⟨ua, uc, rfl⟩ := hu.shape
      have hul := hu.len.2
      unfold maxLen at hul
      have HXX := Lib.hid hx
      clear hu hx
      go_wp2_with fail
      all_goals first
        | (go_ret; exact ⟨_, rfl, (fun h => by cases h), rfl⟩)
        | (go_round
           case rel => exact ⟨k + 1, _, by omega, by omega, by omega, by go_num, rfl, HSH.out.succ HXX.out (by omega)⟩
           case measure => simp [intOf]; omega)
    · obtain rfl : k = M.length := by omega
      go_wp2_with fail
      go_ret
      exact ⟨_, rfl, fun _ => HSH.out.all, rfl⟩

set_option maxRecDepth 100000 in
set_option maxHeartbeats 2000000 in
theorem bytes3 (v : Value) (M : List (List (List Int))) (w : World) (h : In3 w v M) : Calls Tryz.prog 8 #[v] w (BoolIf ((∀ x ∈ M, x.length ≤ 1048576) ∧ ∀ x ∈ M, ∀ y ∈ x, y.length ≤ 1048576) w) := by
  obtain ⟨a, c, rfl⟩ := h.shape
  have hlen := h.len.2
  unfold maxLen at hlen
  have HX := Lib.hid h
  clear h
  go_enter Tryz.func8, Tryz.ntmps8
  go_wp2_with fail
  all_goals first
    | (go_ret; exact ⟨_, rfl, (fun h => by cases h), rfl⟩)
    | skip
  go_loop [3, 4] (fun n i => ∃ (k : Nat) (s : Int), k ≤ M.length ∧ 0 ≤ s ∧ s ≤ 1048576 ∧ i = .int .i64 k ∧ n = .int .i64 s ∧ Short M k ∧ Short2 M k) (fun _ i => M.length - (intOf i).toNat)
  case atStart => exact ⟨0, _, Nat.zero_le _, by omega, by omega, rfl, rfl, Short.zero _, Short2.zero _⟩
  case round =>
    obtain ⟨k, s, hk, hs1, hs2, rfl, rfl, hsh, hsh2⟩ := hrel
    have HSH := Lib.hid hsh
    have HSH2 := Lib.hid hsh2
    clear hsh hsh2
    by_cases hlt : k < M.length
    · obtain ⟨b, off, u, x, ha, hx, hc, hu⟩ := HX.out.at hlt
      subst ha
      obtain ⟨ua, uc, rfl⟩ := hu.shape
      have hul := hu.len.2
      unfold maxLen at hul
      have HU := Lib.hid hu
      have HXX := Lib.hid hx
      clear hu hx
      go_wp2_with fail
      all_goals first
        | (go_ret; exact ⟨_, rfl, (fun h => by cases h), rfl⟩)
        | skip
      go_loop [3, 5] (fun n j => ∃ (q : Nat) (t : Int), q ≤ x.length ∧ 0 ≤ t ∧ t ≤ 1048576 ∧ j = .int .i64 q ∧ n = .int .i64 t ∧ Short x q) (fun _ j => x.length - (intOf j).toNat)
      case atStart => exact ⟨0, _, Nat.zero_le _, by omega, by omega, rfl, rfl, Short.zero _⟩
      case round =>
        obtain ⟨q, t, hq, ht1, ht2, rfl, rfl, hshq⟩ := hrel
        have HSQ := Lib.hid hshq
        clear hshq
        by_cases hlt2 : q < x.length
        · obtain ⟨b2, off2, u2, x2, ha2, hx2, hc2, hu2⟩ := HU.out.at hlt2
          subst ha2
          obtain ⟨ua2, uc2, rfl⟩ := hu2.shape
          have hul2 := hu2.len.2
          unfold maxLen at hul2
          have HX2 := Lib.hid hx2
          clear hu2 hx2
          go_wp2_with fail
          all_goals first
            | (go_ret; exact ⟨_, rfl, (fun h => by cases h), rfl⟩)
            | (go_round
               case rel => exact ⟨q + 1, _, by omega, by omega, by omega, by go_num, rfl, HSQ.out.succ HX2.out (by omega)⟩
               case measure => simp [intOf]; omega)
        · obtain rfl : q = x.length := by omega
          go_wp2_with fail
          go_round
          case rel => exact ⟨k + 1, _, by omega, by omega, by omega, by go_num, rfl, HSH.out.succ HXX.out (by omega), HSH2.out.succ HXX.out HSQ.out.all⟩
          case measure => simp [intOf]; omega
    · obtain rfl : k = M.length := by omega
      go_wp2_with fail
      go_ret
      exact ⟨_, rfl, fun _ => ⟨HSH.out.all, HSH2.out.all⟩, rfl⟩
end Go.Proofs.YtgnilcmhaobgeaaGreat

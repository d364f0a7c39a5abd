/- float64 of an int is no NaN: it is equal to itself. Plain; no condition. -/
import Derived.Laws.FloatArith
namespace Go.Proofs.YtpjbeenakkfcfaaGreat
open Ieee

def NoNaN (b : Nat) : Prop := ∀ s m, double.read b ≠ .nan s m

theorem read_word (neg : Bool) (r : Nat) (h : r ≤ double.infRung) :
    double.read (double.word neg r) = (if r < double.binade then .number neg r double.leastPlace else if r < double.infRung then .number neg (double.binade + r % double.binade) (double.leastPlace + (r / double.binade - 1 : Nat)) else .infinity neg) := by
  have hs : double.signWeight = 9223372036854775808 := by decide
  have hi : double.infRung = 9218868437227405312 := by decide
  have h1 : double.word neg r / double.signWeight % 2 = (if neg then 1 else 0) := by
    unfold Format.word; rw [hs]; cases neg <;> simp <;> omega
  have h2 : double.word neg r % double.signWeight = r := by
    unfold Format.word; rw [hs]; cases neg <;> simp <;> omega
  unfold Format.read
  simp only [h1, h2]
  have hneg : ((if neg then 1 else 0) == 1) = neg := by cases neg <;> rfl
  rw [hneg]
  by_cases a : r < double.binade
  · simp [a]
  · by_cases b : r < double.infRung
    · simp [a, b]
    · have e : r = double.infRung := by omega
      subst e
      simp
theorem noNaN_word (neg : Bool) (r : Nat) (h : r ≤ double.infRung) : NoNaN (double.word neg r) := by
  intro s m e
  rw [read_word neg r h] at e
  split at e
  · cases e
  · split at e <;> cases e
theorem nearest_noNaN (neg : Bool) (mag : Nat) (place : Int) : NoNaN (double.nearest neg mag place) := by
  unfold Format.nearest
  split
  · exact noNaN_word _ _ (Nat.zero_le _)
  · exact noNaN_word _ _ (Nat.min_le_right _ _)
theorem order_self {x : Nat} (hx : NoNaN x) : (Go.FloatKind.f64.format.order x x == some Ordering.eq) = true := by
  show (double.order x x == some Ordering.eq) = true
  unfold Format.order
  cases hd : double.read x with
  | nan s m => exact absurd hd (hx s m)
  | infinity s => simp [Datum.order]
  | number s m i => simp [Datum.order]
theorem ofInt_self (v : Int) : (Go.FloatKind.f64.format.order (Go.floatOfInt .f64 v) (Go.floatOfInt .f64 v) == some Ordering.eq) = true :=
  order_self (nearest_noNaN _ _ _)
theorem zero_self : (Go.FloatKind.f64.format.order 0 0 == some Ordering.eq) = true := by decide +kernel
end Go.Proofs.YtpjbeenakkfcfaaGreat

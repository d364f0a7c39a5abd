/- Floatify: the recursion over a spine. -/
import Derived.Test.YtpjbeenakkfcfaaGreatFloA
namespace Go.Proofs.YtpjbeenakkfcfaaGreat
open Go.RowKit Go.Deep

def opName (c : Nat) : ByteArray := match c with
  | 1 => ⟨#[43]⟩
  | 2 => ⟨#[45]⟩
  | 3 => ⟨#[42]⟩
  | 4 => ⟨#[47]⟩
  | 5 => ⟨#[37]⟩
  | _ => ⟨#[42, 42]⟩
/-- what a slot holds that leads to level j's node: leaf 0, or the node of level j - 1 -/
def nodeV (code nb lb : Nat → Nat) : Nat → Value
  | 0 => (.iface 53 (.pointer (some ⟨lb 0, 0, none⟩)))
  | i + 1 => if code i = 0 then (.iface 74 (.pointer (some ⟨nb i, 0, none⟩))) else (.iface 50 (.pointer (some ⟨nb i, 0, none⟩)))
/-- a leaf's slot, converted or not -/
def slotV (conv : Bool) (q l : Nat) : Value := match conv with
  | true => (.iface 56 (.pointer (some ⟨q, 0, none⟩)))
  | false => (.iface 53 (.pointer (some ⟨l, 0, none⟩)))
/-- do all nodes from level i up to level j - 1 convert? -/
def cv (code : Nat → Nat) (j i : Nat) : Bool := decide (∀ k, k < j → i ≤ k → code k ≤ 3)
/-- level i's node: its left (or only) slot L, its right slot R -/
def LevelAt (code nb : Nat → Nat) (w : World) (i : Nat) (L R : Value) : Prop :=
  (code i = 0 ∧ w.heap[nb i]? = some (.cells (nd0 [.string ⟨#[45]⟩, L]) 76 (0, 0))) ∨
  (code i ≠ 0 ∧ w.heap[nb i]? = some (.cells (nd0 [.string (opName (code i)), L, R]) 79 (0, 0)))
/-- is there a leaf i? -/
def HasLeaf (code : Nat → Nat) (i : Nat) : Prop := i = 0 ∨ code (i - 1) ≠ 0
structure Spine (code nb lb : Nat → Nat) (val : Nat → Int) (w : World) (j : Nat) : Prop where
  level : ∀ i, i < j → LevelAt code nb w i (nodeV code nb lb i) (.iface 53 (.pointer (some ⟨lb (i + 1), 0, none⟩)))
  leaf : ∀ i, i ≤ j → HasLeaf code i → IntAt w (lb i) (val i)
structure Apart (nb lb : Nat → Nat) (j : Nat) : Prop where
  nodes : ∀ i k, i < j → k < j → nb i = nb k → i = k
  leaves : ∀ i k, i < j → k ≤ j → nb i ≠ lb k
structure Done (code nb lb : Nat → Nat) (val : Nat → Int) (w : World) (j : Nat) (fb : Nat → Nat) : Prop where
  level : ∀ i, i < j → LevelAt code nb w i (if i = 0 then slotV (cv code j 0) (fb 0) (lb 0) else nodeV code nb lb i) (slotV (cv code j i) (fb (i + 1)) (lb (i + 1)))
  leaf : ∀ i, i ≤ j → HasLeaf code i → IntAt w (lb i) (val i)
  flo : ∀ i, i ≤ j → HasLeaf code i → cv code j (i - 1) = true → FloatAt w (fb i) (floatOfInt .f64 (val i))
def blocks (nb : Nat → Nat) (j : Nat) : List Nat := (List.range j).map nb
def TravPost (code nb lb : Nat → Nat) (val : Nat → Int) (w : World) (j b off : Nat) (c : Array Value) (t : TypeId) (e : Ending) (w' : World) : Prop :=
  e = .returned (.tuple #[]) ∧ ∃ fb, Wr (b :: blocks nb j) w w' ∧ w'.heap[b]? = some (.cells (if j = 0 then c.setIfInBounds off (.iface 56 (.pointer (some ⟨fb 0, 0, none⟩))) else c) t (0, 0)) ∧ Done code nb lb val w' j fb

theorem trav_zero {code nb lb : Nat → Nat} {val : Nat → Int} (w : World) (b off : Nat) (c : Array Value) (t : TypeId) (ha : w.heap[b]? = some (.cells c t (0, 0))) (hc : c[off]? = some (nodeV code nb lb 0)) (hs : Spine code nb lb val w 0) (hb : b ≠ lb 0) :
    Calls Tryz.prog 16 #[.pointer (some ⟨b, off, none⟩), .agg nat0] w (TravPost code nb lb val w 0 b off c t) := by
  have hl := hs.leaf 0 (Nat.le_refl _) (Or.inl rfl)
  refine (trav_leaf b off (lb 0) c t (val 0) w ha hc hl).mono ?_
  rintro e w' ⟨rfl, q, hq, hw, hb', hf⟩
  refine ⟨rfl, fun _ => q, hw, by simpa using hb', ⟨fun i hi => absurd hi (by omega), fun i hi _ => ?_, fun i hi _ _ => ?_⟩⟩
  · obtain rfl : i = 0 := by omega
    exact hw.keep hl (by simp; exact fun h => hb h.symm)
  · obtain rfl : i = 0 := by omega
    exact hf
end Go.Proofs.YtpjbeenakkfcfaaGreat

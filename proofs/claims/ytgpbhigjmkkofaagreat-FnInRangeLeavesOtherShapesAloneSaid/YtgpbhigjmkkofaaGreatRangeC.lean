/- zzSameBound_b4 says yes; zzTypedLeft_b4; ZZinRangeVisit_n003_104. -/
import Derived.Test.YtgpbhigjmkkofaaGreatRangeB
import Derived.Test.YtgpbhigjmkkofaaGreatFirstD
namespace Go.Proofs.YtgpbhigjmkkofaaGreat
open Go.RowKit Go.Deep

theorem sFlo : (Tryz.prog.info? 57).isSome = true := by kernel_rfl

/-- the node (type t, block p) that was taken for kind k -/
def Bound (k : Nat) (t : TypeId) (p pI pId pF : Nat) : Prop :=
  (k = 0 ∧ t = 39 ∧ p = pI) ∨ (k = 1 ∧ t = 37 ∧ p = pId) ∨ (k = 2 ∧ t = 55 ∧ p = pF)

set_option maxRecDepth 100000 in
set_option maxHeartbeats 1000000 in
theorem sameBound_yes (k : Nat) (t : TypeId) (p pI pId pF : Nat) (v : Int) (s : ByteArray) (x : Nat) (w : World) (hb : Bound k t p pI pId pF) (h0 : IntAt w pI v) (h1 : IdAt w pId s) (h2 : FloatAt w pF (.float .f64 x))
    (hx : (FloatKind.f64.format.order x x == some Ordering.eq) = true) :
    Calls Tryz.prog 11 #[.iface t (.pointer (some ⟨p, 0, none⟩)), .int .i64 k, (.pointer (some ⟨pI, 0, none⟩)), (.pointer (some ⟨pId, 0, none⟩)), (.pointer (some ⟨pF, 0, none⟩)), .int .i64 v, .string s, .float .f64 x] w fun e w' => e = .returned (.bool true) ∧ w = w' := by
  have c0 : w.cell? ⟨pI, 11, none⟩ = some (.int .i64 v) := by rw [cell_of_block h0]; rfl
  have c1 : w.cell? ⟨pId, 11, none⟩ = some (.string s) := by rw [cell_of_block h1]; rfl
  have c2 : w.cell? ⟨pF, 11, none⟩ = some (.float .f64 x) := by rw [cell_of_block h2]; rfl
  have tInt := ta_hit Tryz.underlying39 59
  have tId := ta_hit Tryz.underlying37 59
  have tFlo := ta_hit Tryz.underlying55 59
  have eInt := eql_ptr_same Tryz.underlying39 sInt
  have eId := eql_ptr_same Tryz.underlying37 sId
  have eFlo := eql_ptr_same Tryz.underlying55 sFlo
  clear h0 h1 h2
  rcases hb with ⟨rfl, rfl, rfl⟩ | ⟨rfl, rfl, rfl⟩ | ⟨rfl, rfl, rfl⟩
  all_goals
    go_enter Tryz.func11, Tryz.ntmps11
    go_wp2_with fail
    go_ret
    exact ⟨rfl, rfl⟩

/-- the left node, typed as kind k says -/
def leftTy (k : Nat) : Value := match k with
  | 0 => .nilIface
  | 1 => intTy
  | _ => strTy
def LeftAt (w : World) (k q : Nat) : Prop := ∃ c, w.heap[q]? = some (.cells c 54 (0, 0)) ∧ c[2]? = some (leftTy k) ∧ c[11]? = some (.string ⟨#[120]⟩)

set_option maxRecDepth 100000 in
set_option maxHeartbeats 1000000 in
theorem typedLeft (k : Nat) (hk : k < 3) (w : World) :
    Calls Tryz.prog 9 #[.int .i64 k] w fun e w' => ∃ q, e = .returned (.pointer (some ⟨q, 0, none⟩)) ∧ Below w.heap.size w w' ∧ LeftAt w' k q := by
  rcases (by omega : k = 0 ∨ k = 1 ∨ k = 2) with rfl | rfl | rfl
  · go_enter Tryz.func9, Tryz.ntmps9
    go_wp2_with fail
    go_ret
    exact ⟨_, rfl, (Below.refl _ _).alloc (Nat.le_refl _) _, _, alloc_new _ _, rfl, rfl⟩
  · go_enter Tryz.func9, Tryz.ntmps9
    go_wp2_with fail
    refine (setInt w.heap.size [.string ⟨#[120]⟩] _ _ (alloc_new _ _)).mono ?_
    rintro e w2 ⟨rfl, hw, hq⟩
    have HW := Lib.hid hw
    have HQ := Lib.hid hq
    clear hw hq
    go_wp2_with fail
    go_ret
    exact ⟨_, rfl, ((Below.refl _ _).alloc (Nat.le_refl _) _).trans (HW.out.below (by rw [alloc_size]; omega) (by simp)), _, HQ.out, rfl, rfl⟩
  · go_enter Tryz.func9, Tryz.ntmps9
    go_wp2_with fail
    refine (setStr w.heap.size [.string ⟨#[120]⟩] _ _ (alloc_new _ _)).mono ?_
    rintro e w2 ⟨rfl, hw, hq⟩
    have HW := Lib.hid hw
    have HQ := Lib.hid hq
    clear hw hq
    go_wp2_with fail
    go_ret
    exact ⟨_, rfl, ((Below.refl _ _).alloc (Nat.le_refl _) _).trans (HW.out.below (by rw [alloc_size]; omega) (by simp)), _, HQ.out, rfl, rfl⟩

/-- one more world: all that was there is as it was -/
def Stays (w w' : World) : Prop := ∀ (k : Nat) (o : Obj), w.heap[k]? = some o → w'.heap[k]? = some o
theorem Stays.refl (w : World) : Stays w w := fun _ _ h => h
theorem Stays.alloc {w0 w : World} (h : Stays w0 w) (o : Obj) : Stays w0 (w.alloc o) := fun k v hk => by rw [alloc_old _ (lt_of_heap (h k v hk))]; exact h k v hk
theorem Stays.below {w w' : World} (h : Below w.heap.size w w') : Stays w w' := fun _ _ hk => below_keep h hk
theorem Stays.trans {a b c : World} (h : Stays a b) (k : Stays b c) : Stays a c := fun i o hi => k i o (h i o hi)
theorem LeftAt.move {w w' : World} {k q : Nat} (h : LeftAt w k q) (hs : Stays w w') : LeftAt w' k q := by
  obtain ⟨c, h1, h2, h3⟩ := h
  exact ⟨c, hs _ _ h1, h2, h3⟩

/-- a right side that Visit never rewrites -/
def QuietR (w : World) (R : Value) : Prop :=
  (∃ (t : TypeId) (p : Nat), R = .iface t (.pointer (some ⟨p, 0, none⟩)) ∧ t ≠ 60) ∨
  (∃ (pr : Nat) (F T : Value), R = (.iface 60 (.pointer (some ⟨pr, 0, none⟩))) ∧ w.heap[pr]? = some (.cells (nd0 [.string ⟨#[43]⟩, F, T]) 66 (0, 0))) ∨
  (∃ (pr : Nat) (t : TypeId) (p : Nat) (T : Value), R = (.iface 60 (.pointer (some ⟨pr, 0, none⟩))) ∧ w.heap[pr]? = some (.cells (nd0 [.string ⟨#[46, 46]⟩, .iface t (.pointer (some ⟨p, 0, none⟩)), T]) 66 (0, 0)) ∧ t ≠ 39) ∨
  (∃ (pr pf : Nat) (t : TypeId) (p : Nat), R = (.iface 60 (.pointer (some ⟨pr, 0, none⟩))) ∧ w.heap[pr]? = some (.cells (nd0 [.string ⟨#[46, 46]⟩, (.iface 39 (.pointer (some ⟨pf, 0, none⟩))), .iface t (.pointer (some ⟨p, 0, none⟩))]) 66 (0, 0)) ∧ t ≠ 39)
theorem QuietR.move {w w' : World} {R : Value} (h : QuietR w R) (hs : Stays w w') : QuietR w' R := by
  rcases h with ⟨t, p, h1, h2⟩ | ⟨pr, F, T, h1, h2⟩ | ⟨pr, t, p, T, h1, h2, h3⟩ | ⟨pr, pf, t, p, h1, h2, h3⟩
  · exact Or.inl ⟨t, p, h1, h2⟩
  · exact Or.inr (Or.inl ⟨pr, F, T, h1, hs _ _ h2⟩)
  · exact Or.inr (Or.inr (Or.inl ⟨pr, t, p, T, h1, hs _ _ h2, h3⟩))
  · exact Or.inr (Or.inr (Or.inr ⟨pr, pf, t, p, h1, hs _ _ h2, h3⟩))

theorem inr_in (r R : Value) (a pb q lk : Nat) (hlk : lk < 3) (w : World) (ha : w.heap[a]? = some (.cells #[(.iface 60 (.pointer (some ⟨pb, 0, none⟩)))] 59 (0, 0)))
    (hb : w.heap[pb]? = some (.cells (nd0 [.string ⟨#[105, 110]⟩, (.iface 37 (.pointer (some ⟨q, 0, none⟩))), R]) 66 (0, 0))) (hl : LeftAt w lk q) (hq : lk = 1 → QuietR w R) :
    Calls Tryz.prog 31 #[r, (.pointer (some ⟨a, 0, none⟩))] w (Kept w) := by
  obtain ⟨c, h1, h2, _⟩ := hl
  have hc : w.cell? ⟨q, 2, none⟩ = some (leftTy lk) := by rw [cell_of_block h1, h2]
  rcases (by omega : lk = 0 ∨ lk = 1 ∨ lk = 2) with rfl | rfl | rfl
  · exact inr_any r R a pb q w ha hb hc
  · rcases hq rfl with ⟨t, p, rfl, h⟩ | ⟨pr, F, T, rfl, h⟩ | ⟨pr, t, p, T, rfl, h, h'⟩ | ⟨pr, pf, t, p, rfl, h, h'⟩
    · exact inr_int_arr r a pb q t p w ha hb hc h
    · exact inr_int_plus r a pb q pr F T w ha hb hc h
    · exact inr_int_from r a pb q t pr p T w ha hb hc h h'
    · exact inr_int_to r a pb q t pr pf p w ha hb hc h h'
  · exact inr_str r R a pb q w ha hb hc

def opB (oi : Bool) : ByteArray := match oi with
  | true => ⟨#[105, 110]⟩
  | false => ⟨#[61, 61]⟩

theorem inr_op (r R : Value) (oi : Bool) (a pb q lk : Nat) (hlk : lk < 3) (w : World) (ha : w.heap[a]? = some (.cells #[(.iface 60 (.pointer (some ⟨pb, 0, none⟩)))] 59 (0, 0)))
    (hb : w.heap[pb]? = some (.cells (nd0 [.string (opB oi), (.iface 37 (.pointer (some ⟨q, 0, none⟩))), R]) 66 (0, 0))) (hl : LeftAt w lk q) (hq : oi = true → lk = 1 → QuietR w R) :
    Calls Tryz.prog 31 #[r, (.pointer (some ⟨a, 0, none⟩))] w (Kept w) := by
  cases oi
  · exact inr_eq r R a pb q w ha hb
  · exact inr_in r R a pb q lk hlk w ha hb hl (hq rfl)

set_option maxRecDepth 100000 in
set_option maxHeartbeats 1000000 in
theorem zz_op (R : Value) (oi : Bool) (a pb q lk : Nat) (hlk : lk < 3) (w : World) (ha : w.heap[a]? = some (.cells #[(.iface 60 (.pointer (some ⟨pb, 0, none⟩)))] 59 (0, 0)))
    (hb : w.heap[pb]? = some (.cells (nd0 [.string (opB oi), (.iface 37 (.pointer (some ⟨q, 0, none⟩))), R]) 66 (0, 0))) (hl : LeftAt w lk q) (hq : oi = true → lk = 1 → QuietR w R) :
    Calls Tryz.prog 10 #[(.pointer (some ⟨a, 0, none⟩))] w (Kept w) := by
  have HA := Lib.hid ha
  have HB := Lib.hid hb
  have HL := Lib.hid hl
  have HQ := Lib.hid hq
  clear ha hb hl hq
  go_enter Tryz.func10, Tryz.ntmps10
  go_wp2_with fail
  refine (inr_op _ R oi a pb q lk hlk _ (((Stays.refl w).alloc _) _ _ HA.out) (((Stays.refl w).alloc _) _ _ HB.out) (HL.out.move ((Stays.refl w).alloc _)) (fun x y => (HQ.out x y).move ((Stays.refl w).alloc _))).mono ?_
  rintro e w2 hk
  obtain ⟨rfl, hb⟩ := hk
  go_wp2_with fail
  go_end0
  exact Kept.pre ⟨rfl, hb⟩

/-- the nodes of one bound, all three, at n, n + 1, n + 1 + 1 -/
structure Six (w wx : World) (lk q n : Nat) (v : Int) (s : ByteArray) (x : Nat) : Prop where
  below : Below w.heap.size w wx
  left : LeftAt wx lk q
  i : IntAt wx n v
  d : IdAt wx (n + 1) s
  f : FloatAt wx (n + 1 + 1) (.float .f64 x)
theorem Six.move {w wx wy : World} {lk q n : Nat} {v : Int} {s : ByteArray} {x : Nat} (h : Six w wx lk q n v s x) (hb : Below w.heap.size w wy) (hs : Stays wx wy) : Six w wy lk q n v s x :=
  ⟨hb, h.left.move hs, hs _ _ h.i, hs _ _ h.d, hs _ _ h.f⟩
theorem Six.of {w w1 : World} {lk q : Nat} (hb : Below w.heap.size w w1) (hl : LeftAt w1 lk q) (v : Int) (s : ByteArray) (x : Nat) :
    Six w (((w1.alloc (.cells (nd0 [.int .i64 v]) 52)).alloc (.cells (nd0 [.string s]) 54)).alloc (.cells (nd0 [.float .f64 x]) 57)) lk q w1.heap.size v s x := by
  have hs := hb.size
  refine ⟨((hb.alloc hs _).alloc (by rw [alloc_size]; omega) _).alloc (by rw [alloc_size, alloc_size]; omega) _, hl.move ((((Stays.refl _).alloc _).alloc _).alloc _), ?_, ?_, ?_⟩
  · exact (((Stays.refl _).alloc _).alloc _) _ _ (alloc_new _ _)
  · exact ((Stays.refl _).alloc _) _ _ (alloc_new' (by rw [alloc_size]))
  · exact alloc_new' (by rw [alloc_size, alloc_size])

def FromAt (w wx : World) (lk q fk n : Nat) (v : Int) (s : ByteArray) (x : Nat) (u : Value) : Prop :=
  ∃ (t : TypeId) (p : Nat), u = .iface t (.pointer (some ⟨p, 0, none⟩)) ∧ Bound fk t p n (n + 1) (n + 1 + 1) ∧ Six w wx lk q n v s x
def ToAt (w wx : World) (lk q n : Nat) (v : Int) (s : ByteArray) (x : Nat) (tk m : Nat) (v2 : Int) (s2 : ByteArray) (x2 : Nat) (u : Value) : Prop :=
  ∃ (t : TypeId) (p : Nat), u = .iface t (.pointer (some ⟨p, 0, none⟩)) ∧ Bound tk t p m (m + 1) (m + 1 + 1) ∧ Six w wx lk q n v s x ∧ Six w wx lk q m v2 s2 x2

/-- the law's own way out -/
def early (lk fk tk rk : Nat) (oi : Bool) : Bool := decide (lk = 1 ∧ fk = 0 ∧ tk = 0 ∧ rk = 0 ∧ oi = true)
theorem early_no {lk fk tk rk : Nat} {oi : Bool} (h : ¬ (lk = 1 ∧ fk = 0 ∧ tk = 0 ∧ rk = 0 ∧ oi = true)) : early lk fk tk rk oi = false := by simp only [early]; exact decide_eq_false h
theorem early_yes {lk fk tk rk : Nat} {oi : Bool} (h : lk = 1 ∧ fk = 0 ∧ tk = 0 ∧ rk = 0 ∧ oi = true) : early lk fk tk rk oi = true := by simp only [early]; exact decide_eq_true h
/-- the last test of the chain -/
theorem early_eq {lk fk tk rk : Nat} (h1 : lk = 1) (h2 : fk = 0) (h3 : tk = 0) : early lk fk tk rk true = ((rk : Int) == 0) := by
  subst h1 h2 h3
  by_cases h : rk = 0 <;> simp [early, h]
theorem Bound.ne {k : Nat} {t : TypeId} {p pI pId pF : Nat} (h : Bound k t p pI pId pF) (hk : k ≠ 0) : t ≠ 39 := by
  rcases h with ⟨h, _⟩ | ⟨_, rfl, _⟩ | ⟨_, rfl, _⟩
  · exact absurd h hk
  · decide
  · decide
theorem Bound.eq {t : TypeId} {p pI pId pF : Nat} (h : Bound 0 t p pI pId pF) : t = 39 := by
  rcases h with ⟨_, h, _⟩ | ⟨h, _⟩ | ⟨h, _⟩
  · exact h
  · cases h
  · cases h
end Go.Proofs.YtgpbhigjmkkofaaGreat

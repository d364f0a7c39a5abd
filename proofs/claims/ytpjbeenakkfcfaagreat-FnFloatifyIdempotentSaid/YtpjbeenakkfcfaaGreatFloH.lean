/- Floatify: what buildSpine has laid after k rounds: plain laws on the heap. -/
import Derived.Test.YtpjbeenakkfcfaaGreatFloG
namespace Go.Proofs.YtpjbeenakkfcfaaGreat
open Go.RowKit Go.Deep

/-- all blocks that there were are as they were -/
def Keeps (w w' : World) : Prop := ∀ (k : Nat) (o : Obj), w.heap[k]? = some o → w'.heap[k]? = some o
theorem Keeps.below {w w' : World} (h : Below w.heap.size w w') : Keeps w w' := fun _ _ hk => below_keep h hk
theorem Keeps.at {w w' : World} (h : Keeps w w') {k : Nat} (hk : k < w.heap.size) : w'.heap[k]? = w.heap[k]? := by
  rw [h k _ (Array.getElem?_eq_getElem hk), Array.getElem?_eq_getElem hk]
theorem Keeps.row {w w' : World} (h : Keeps w w') {b n : Nat} {t : TypeId} {f : Nat → Value} (hr : w.rowIs b t n f) : w'.rowIs b t n f := hr.of_block (h.at hr.lt)

theorem ne_type {w : World} {a b : Nat} {c d : Array Value} {T U : TypeId} {f g : Nat × Nat} (h : w.heap[a]? = some (.cells c T f)) (k : w.heap[b]? = some (.cells d U g)) (hT : T ≠ U) : a ≠ b := by
  intro e
  subst e
  rw [h] at k
  injection k with k
  injection k with _ k _
  exact hT k

def lvF (code lb : Nat → Nat) (k i : Nat) : Value := if i ≤ k ∧ (i = 0 ∨ code (i - 1) ≠ 0) then ptr (lb i) else .pointer none
def unF (code nb : Nat → Nat) (k i : Nat) : Value := if i < k ∧ code i = 0 then ptr (nb i) else .pointer none
def biF (code nb : Nat → Nat) (k i : Nat) : Value := if i < k ∧ code i ≠ 0 then ptr (nb i) else .pointer none
def upd (f : Nat → Nat) (i v : Nat) : Nat → Nat := fun j => if j = i then v else f j
theorem upd_same (f : Nat → Nat) (i v : Nat) : upd f i v i = v := if_pos rfl
theorem upd_other {f : Nat → Nat} {i v j : Nat} (h : j ≠ i) : upd f i v j = f j := if_neg h
theorem nodeV_congr {code nb lb nb' lb' : Nat → Nat} {j : Nat} (h : ∀ i, i < j → nb' i = nb i) (h0 : lb' 0 = lb 0) : nodeV code nb' lb' j = nodeV code nb lb j := by
  cases j with
  | zero => simp only [nodeV]; rw [h0]
  | succ i => simp only [nodeV]; rw [h i (by omega)]

theorem Spine.push {code nb lb nb' lb' : Nat → Nat} {val : Nat → Int} {w w' : World} {j : Nat} (h : Spine code nb lb val w j)
    (hn : ∀ i, i < j → w'.heap[nb i]? = w.heap[nb i]?) (hl : ∀ i, i ≤ j → HasLeaf code i → w'.heap[lb i]? = w.heap[lb i]?)
    (hnb : ∀ i, i < j → nb' i = nb i) (hlb : ∀ i, i ≤ j → lb' i = lb i) (hlev : LevelAt code nb' w' j (nodeV code nb' lb' j) (.iface 53 (.pointer (some ⟨lb' (j + 1), 0, none⟩))))
    (hleaf : HasLeaf code (j + 1) → IntAt w' (lb' (j + 1)) (val (j + 1))) : Spine code nb' lb' val w' (j + 1) := by
  refine ⟨fun i hi => ?_, fun i hi hh => ?_⟩
  · by_cases e : i = j
    · subst e; exact hlev
    · have hi' : i < j := by omega
      have := h.level i hi'
      rw [nodeV_congr (fun k hk => hnb k (by omega)) (hlb 0 (by omega)), hlb (i + 1) (by omega)]
      rcases this with ⟨x, y⟩ | ⟨x, y⟩
      · exact Or.inl ⟨x, by rw [hnb i hi', hn i hi']; exact y⟩
      · exact Or.inr ⟨x, by rw [hnb i hi', hn i hi']; exact y⟩
  · by_cases e : i = j + 1
    · subst e; exact hleaf hh
    · have hi' : i ≤ j := by omega
      have := h.leaf i hi' hh
      unfold IntAt at this ⊢
      rw [hlb i hi', hl i hi' hh]
      exact this

theorem Spine.node {code nb lb : Nat → Nat} {val : Nat → Int} {w : World} {j : Nat} (h : Spine code nb lb val w j) {i : Nat} (hi : i < j) :
    ∃ c T, w.heap[nb i]? = some (.cells c T (0, 0)) ∧ (T = 76 ∨ T = 79) := by
  rcases h.level i hi with ⟨_, y⟩ | ⟨_, y⟩
  · exact ⟨_, _, y, Or.inl rfl⟩
  · exact ⟨_, _, y, Or.inr rfl⟩
/-- a block of another type is none of the spine's -/
theorem Spine.away {code nb lb : Nat → Nat} {val : Nat → Int} {w : World} {j : Nat} (h : Spine code nb lb val w j) {b : Nat} {c : Array Value} {T : TypeId} {f : Nat × Nat} (hb : w.heap[b]? = some (.cells c T f))
    (h1 : T ≠ 76) (h2 : T ≠ 79) (h3 : T ≠ 73) : (∀ i, i < j → nb i ≠ b) ∧ (∀ i, i ≤ j → HasLeaf code i → lb i ≠ b) := by
  refine ⟨fun i hi => ?_, fun i hi hh => ne_type (h.leaf i hi hh) hb (fun e => h3 e.symm)⟩
  obtain ⟨c', T', y, hT⟩ := h.node hi
  rcases hT with rfl | rfl
  · exact ne_type y hb (fun e => h1 e.symm)
  · exact ne_type y hb (fun e => h2 e.symm)

structure Built (code nb lb : Nat → Nat) (val : Nat → Int) (w0 wr : World) (rb sb lv un bi n k : Nat) : Prop where
  below : Below w0.heap.size w0 wr
  nsb : w0.heap.size ≤ sb
  nlv : w0.heap.size ≤ lv
  nun : w0.heap.size ≤ un
  nbi : w0.heap.size ≤ bi
  hrs : rb ≠ sb
  res : wr.heap[rb]? = some (.cells #[.nilIface, .slice none 0 0, .slice none 0 0, .slice none 0 0] 46 (0, 0))
  loc : wr.heap[sb]? = some (.cells #[nodeV code nb lb k, (.slice (some ⟨lv, 0, none⟩) (n + 1) (n + 1)), (.slice (some ⟨un, 0, none⟩) n n), (.slice (some ⟨bi, 0, none⟩) n n)] 46 (0, 0))
  lvs : wr.rowIs lv 53 (n + 1) (lvF code lb k)
  uns : wr.rowIs un 74 n (unF code nb k)
  bis : wr.rowIs bi 50 n (biF code nb k)
  spine : Spine code nb lb val wr k
  apart : Apart nb lb k
  lbs : ∀ i, i ≤ k → lb i < wr.heap.size
  nnb : ∀ i, i < k → w0.heap.size ≤ nb i

theorem row_ne {w : World} {a b n m : Nat} {T U : TypeId} {f g : Nat → Value} (h : w.rowIs a T n f) (k : w.rowIs b U m g) (hT : T ≠ U) : a ≠ b := by
  obtain ⟨c, hc, _⟩ := h
  obtain ⟨d, hd, _⟩ := k
  exact ne_type hc hd hT
theorem row_ne_block {w : World} {a b n : Nat} {T U : TypeId} {f : Nat → Value} {d : Array Value} {g : Nat × Nat} (h : w.rowIs a T n f) (k : w.heap[b]? = some (.cells d U g)) (hT : T ≠ U) : a ≠ b := by
  obtain ⟨c, hc, _⟩ := h
  exact ne_type hc k hT
theorem Built.lt_all {code nb lb : Nat → Nat} {val : Nat → Int} {w0 wr : World} {rb sb lv un bi n k : Nat} (h : Built code nb lb val w0 wr rb sb lv un bi n k) :
    rb < wr.heap.size ∧ sb < wr.heap.size ∧ lv < wr.heap.size ∧ un < wr.heap.size ∧ bi < wr.heap.size := ⟨lt_of_heap h.res, lt_of_heap h.loc, h.lvs.lt, h.uns.lt, h.bis.lt⟩
theorem Built.nes {code nb lb : Nat → Nat} {val : Nat → Int} {w0 wr : World} {rb sb lv un bi n k : Nat} (h : Built code nb lb val w0 wr rb sb lv un bi n k) :
    lv ≠ sb ∧ un ≠ sb ∧ bi ≠ sb ∧ lv ≠ un ∧ lv ≠ bi ∧ un ≠ bi ∧ lv ≠ rb ∧ un ≠ rb ∧ bi ≠ rb :=
  ⟨row_ne_block h.lvs h.loc (by decide), row_ne_block h.uns h.loc (by decide), row_ne_block h.bis h.loc (by decide), row_ne h.lvs h.uns (by decide), row_ne h.lvs h.bis (by decide), row_ne h.uns h.bis (by decide),
   row_ne_block h.lvs h.res (by decide), row_ne_block h.uns h.res (by decide), row_ne_block h.bis h.res (by decide)⟩
theorem Built.aways {code nb lb : Nat → Nat} {val : Nat → Int} {w0 wr : World} {rb sb lv un bi n k : Nat} (h : Built code nb lb val w0 wr rb sb lv un bi n k) :
    (∀ i, i < k → nb i ≠ sb ∧ nb i ≠ lv ∧ nb i ≠ un ∧ nb i ≠ bi) ∧ (∀ i, i ≤ k → HasLeaf code i → lb i ≠ sb ∧ lb i ≠ lv ∧ lb i ≠ un ∧ lb i ≠ bi) := by
  obtain ⟨c1, hc1, _⟩ := h.lvs
  obtain ⟨c2, hc2, _⟩ := h.uns
  obtain ⟨c3, hc3, _⟩ := h.bis
  have a0 := h.spine.away h.loc (by decide) (by decide) (by decide)
  have a1 := h.spine.away hc1 (by decide) (by decide) (by decide)
  have a2 := h.spine.away hc2 (by decide) (by decide) (by decide)
  have a3 := h.spine.away hc3 (by decide) (by decide) (by decide)
  exact ⟨fun i hi => ⟨a0.1 i hi, a1.1 i hi, a2.1 i hi, a3.1 i hi⟩, fun i hi hh => ⟨a0.2 i hi hh, a1.2 i hi hh, a2.2 i hi hh, a3.2 i hi hh⟩⟩

/-- a round at a unary step -/
theorem Built.una {code nb lb : Nat → Nat} {val : Nat → Int} {w0 wr : World} {rb sb lv un bi n k : Nat} (h : Built code nb lb val w0 wr rb sb lv un bi n k) (h0 : code k = 0) :
    Built code (upd nb k wr.heap.size) (upd lb (k + 1) (lb 0)) val w0
      (((wr.setCell ⟨un, k, none⟩ (ptr wr.heap.size)).setCell ⟨sb, 0, none⟩ (.iface 74 (.pointer (some ⟨wr.heap.size, 0, none⟩)))).alloc (.cells (nd0 [.string ⟨#[45]⟩, nodeV code nb lb k]) 76)) rb sb lv un bi n (k + 1) := by
  obtain ⟨l0, l1, l2, l3, l4⟩ := h.lt_all
  obtain ⟨n1, n2, n3, n4, n5, n6, n7, n8, n9⟩ := h.nes
  obtain ⟨A1, A2⟩ := h.aways
  have hlt0 := h.lbs
  have es : ((wr.setCell ⟨un, k, none⟩ (ptr wr.heap.size)).setCell ⟨sb, 0, none⟩ (.iface 74 (.pointer (some ⟨wr.heap.size, 0, none⟩)))).heap.size = wr.heap.size := by rw [set_size, set_size]
  have hnb : ∀ i, i < k → upd nb k wr.heap.size i = nb i := fun i hi => upd_other (by omega)
  have hlb : ∀ i, i ≤ k → upd lb (k + 1) (lb 0) i = lb i := fun i hi => upd_other (by omega)
  have hkeep : ∀ x, x < wr.heap.size → x ≠ un → x ≠ sb → ∀ o, (((wr.setCell ⟨un, k, none⟩ (ptr wr.heap.size)).setCell ⟨sb, 0, none⟩ (.iface 74 (.pointer (some ⟨wr.heap.size, 0, none⟩)))).alloc o).heap[x]? = wr.heap[x]? := fun x hx h1 h2 o => by
    rw [alloc_old _ (by rw [es]; exact hx), set_other h2, set_other h1]
  refine ⟨((h.below.setCell h.nun _).setCell h.nsb _).alloc (by rw [es]; exact h.below.size) _, h.nsb, h.nlv, h.nun, h.nbi, h.hrs, ?_, ?_, ?_, ?_, ?_, ?_, ?_, fun i hi => ?_, fun i hi => ?_⟩
  · rw [hkeep _ l0 (fun e => n8 e.symm) h.hrs]; exact h.res
  · rw [alloc_old _ (by rw [es]; exact l1)]
    refine (set_block (by rw [set_other (fun e => n2 e.symm)]; exact h.loc) _ _).trans ?_
    simp [nodeV, h0, upd_same]
  · refine (((h.lvs.setOther n4 _).setOther n1 _).alloc _).congr fun i hi => ?_
    simp only [lvF]
    by_cases e : i = k + 1
    · subst e; simp [h0]
    · by_cases hik : i ≤ k
      · rw [hlb i hik]; simp [hik, show i ≤ k + 1 by omega]
      · simp [hik, show ¬ i ≤ k + 1 by omega]
  · refine (((h.uns.set k _).setOther n2 _).alloc _).congr fun i hi => ?_
    simp only [unF]
    by_cases e : i = k
    · subst e; simp [h0, upd_same]
    · rw [if_neg e]
      by_cases hik : i < k
      · rw [hnb i hik]; simp [hik, show i < k + 1 by omega]
      · simp [hik, show ¬ i < k + 1 by omega]
  · refine (((h.bis.setOther (fun e => n6 e.symm) _).setOther n3 _).alloc _).congr fun i hi => ?_
    simp only [biF]
    by_cases e : i = k
    · subst e; simp [h0]
    · by_cases hik : i < k
      · rw [hnb i hik]; simp [hik, show i < k + 1 by omega]
      · simp [hik, show ¬ i < k + 1 by omega]
  · refine h.spine.push (fun i hi => hkeep _ (h.spine.nb_lt hi) (A1 i hi).2.2.1 (A1 i hi).1 _) (fun i hi hh => hkeep _ (lt_of_heap (h.spine.leaf i hi hh)) (A2 i hi hh).2.2.1 (A2 i hi hh).1 _) hnb hlb (Or.inl ⟨h0, ?_⟩) (fun hh => ?_)
    · rw [upd_same, nodeV_congr (fun i hi => hnb i hi) (hlb 0 (by omega))]
      exact alloc_new' (by rw [es])
    · rcases hh with hh | hh
      · omega
      · exact absurd h0 hh
  · refine ⟨fun i j hi hj e => ?_, fun i j hi hj e => ?_⟩
    · by_cases e1 : i = k
      · by_cases e2 : j = k
        · omega
        · rw [e1, upd_same, hnb j (by omega)] at e
          have := h.spine.nb_lt (i := j) (by omega)
          omega
      · by_cases e2 : j = k
        · rw [e2, upd_same, hnb i (by omega)] at e
          have := h.spine.nb_lt (i := i) (by omega)
          omega
        · rw [hnb i (by omega), hnb j (by omega)] at e
          exact h.apart.nodes i j (by omega) (by omega) e
    · have hlt : ∀ i, i ≤ k + 1 → ∃ m, m ≤ k ∧ upd lb (k + 1) (lb 0) i = lb m := fun i hi => by
        by_cases e : i = k + 1
        · subst e; exact ⟨0, by omega, upd_same ..⟩
        · exact ⟨i, by omega, hlb i (by omega)⟩
      obtain ⟨m, hm, em⟩ := hlt j hj
      rw [em] at e
      by_cases e1 : i = k
      · rw [e1, upd_same] at e
        have := hlt0 m hm
        omega
      · rw [hnb i (by omega)] at e
        exact h.apart.leaves i m (by omega) hm e
  · rw [alloc_size, es]
    by_cases e : i = k + 1
    · subst e
      rw [upd_same]
      have := hlt0 0 (by omega)
      omega
    · rw [hlb i (by omega)]
      have := hlt0 i (by omega)
      omega
  · by_cases e : i = k
    · subst e
      rw [upd_same]
      exact h.below.size
    · rw [hnb i (by omega)]
      exact h.nnb i (by omega)

/-- a round at a binary step -/
theorem Built.bin {code nb lb : Nat → Nat} {val : Nat → Int} {w0 wr : World} {rb sb lv un bi n k : Nat} (h : Built code nb lb val w0 wr rb sb lv un bi n k) (h0 : code k ≠ 0) :
    Built code (upd nb k (wr.heap.size + 1)) (upd lb (k + 1) wr.heap.size) val w0
      (((((wr.setCell ⟨lv, k + 1, none⟩ (ptr wr.heap.size)).setCell ⟨bi, k, none⟩ (ptr (wr.heap.size + 1))).setCell ⟨sb, 0, none⟩ (.iface 50 (.pointer (some ⟨wr.heap.size + 1, 0, none⟩)))).alloc (.cells (nd0 [.int .i64 (val (k + 1))]) 73)).alloc (.cells (nd0 [.string (opName (code k)), nodeV code nb lb k, (.iface 53 (.pointer (some ⟨wr.heap.size, 0, none⟩)))]) 79)) rb sb lv un bi n (k + 1) := by
  obtain ⟨l0, l1, l2, l3, l4⟩ := h.lt_all
  obtain ⟨n1, n2, n3, n4, n5, n6, n7, n8, n9⟩ := h.nes
  obtain ⟨A1, A2⟩ := h.aways
  have hlt0 := h.lbs
  have es : (((wr.setCell ⟨lv, k + 1, none⟩ (ptr wr.heap.size)).setCell ⟨bi, k, none⟩ (ptr (wr.heap.size + 1))).setCell ⟨sb, 0, none⟩ (.iface 50 (.pointer (some ⟨wr.heap.size + 1, 0, none⟩)))).heap.size = wr.heap.size := by rw [set_size, set_size, set_size]
  have hnb : ∀ i, i < k → upd nb k (wr.heap.size + 1) i = nb i := fun i hi => upd_other (by omega)
  have hlb : ∀ i, i ≤ k → upd lb (k + 1) wr.heap.size i = lb i := fun i hi => upd_other (by omega)
  have hkeep : ∀ x, x < wr.heap.size → x ≠ lv → x ≠ bi → x ≠ sb → ∀ o o', (((((wr.setCell ⟨lv, k + 1, none⟩ (ptr wr.heap.size)).setCell ⟨bi, k, none⟩ (ptr (wr.heap.size + 1))).setCell ⟨sb, 0, none⟩ (.iface 50 (.pointer (some ⟨wr.heap.size + 1, 0, none⟩)))).alloc o).alloc o').heap[x]? = wr.heap[x]? := fun x hx h1 h2 h3 o o' => by
    rw [alloc_old _ (by rw [alloc_size, es]; omega), alloc_old _ (by rw [es]; exact hx), set_other h3, set_other h2, set_other h1]
  refine ⟨((((h.below.setCell h.nlv _).setCell h.nbi _).setCell h.nsb _).alloc (by rw [es]; exact h.below.size) _).alloc (by rw [alloc_size, es]; have := h.below.size; omega) _, h.nsb, h.nlv, h.nun, h.nbi, h.hrs, ?_, ?_, ?_, ?_, ?_, ?_, ?_, fun i hi => ?_, fun i hi => ?_⟩
  · rw [hkeep _ l0 (fun e => n7 e.symm) (fun e => n9 e.symm) h.hrs]; exact h.res
  · rw [alloc_old _ (by rw [alloc_size, es]; omega), alloc_old _ (by rw [es]; exact l1)]
    refine (set_block (by rw [set_other (fun e => n3 e.symm), set_other (fun e => n1 e.symm)]; exact h.loc) _ _).trans ?_
    simp [nodeV, h0, upd_same]
  · refine (((((h.lvs.set (k + 1) _).setOther n5 _).setOther n1 _).alloc _).alloc _).congr fun i hi => ?_
    simp only [lvF]
    by_cases e : i = k + 1
    · subst e; simp [h0, upd_same]
    · rw [if_neg e]
      by_cases hik : i ≤ k
      · rw [hlb i hik]; simp [hik, show i ≤ k + 1 by omega]
      · simp [hik, show ¬ i ≤ k + 1 by omega]
  · refine (((((h.uns.setOther (fun e => n4 e.symm) _).setOther n6 _).setOther n2 _).alloc _).alloc _).congr fun i hi => ?_
    simp only [unF]
    by_cases e : i = k
    · subst e; simp [h0]
    · by_cases hik : i < k
      · rw [hnb i hik]; simp [hik, show i < k + 1 by omega]
      · simp [hik, show ¬ i < k + 1 by omega]
  · refine (((((h.bis.setOther (fun e => n5 e.symm) _).set k _).setOther n3 _).alloc _).alloc _).congr fun i hi => ?_
    simp only [biF]
    by_cases e : i = k
    · subst e; simp [h0, upd_same]
    · rw [if_neg e]
      by_cases hik : i < k
      · rw [hnb i hik]; simp [hik, show i < k + 1 by omega]
      · simp [hik, show ¬ i < k + 1 by omega]
  · refine h.spine.push (fun i hi => hkeep _ (h.spine.nb_lt hi) (A1 i hi).2.1 (A1 i hi).2.2.2 (A1 i hi).1 _ _) (fun i hi hh => hkeep _ (lt_of_heap (h.spine.leaf i hi hh)) (A2 i hi hh).2.1 (A2 i hi hh).2.2.2 (A2 i hi hh).1 _ _) hnb hlb (Or.inr ⟨h0, ?_⟩) (fun hh => ?_)
    · rw [upd_same, upd_same, nodeV_congr (fun i hi => hnb i hi) (hlb 0 (by omega))]
      exact alloc_new' (by rw [alloc_size, es])
    · rw [upd_same]
      unfold IntAt
      rw [alloc_old _ (by rw [alloc_size, es]; omega)]
      exact alloc_new' (by rw [es])
  · refine ⟨fun i j hi hj e => ?_, fun i j hi hj e => ?_⟩
    · by_cases e1 : i = k
      · by_cases e2 : j = k
        · omega
        · rw [e1, upd_same, hnb j (by omega)] at e
          have := h.spine.nb_lt (i := j) (by omega)
          omega
      · by_cases e2 : j = k
        · rw [e2, upd_same, hnb i (by omega)] at e
          have := h.spine.nb_lt (i := i) (by omega)
          omega
        · rw [hnb i (by omega), hnb j (by omega)] at e
          exact h.apart.nodes i j (by omega) (by omega) e
    · by_cases e2 : j = k + 1
      · rw [e2, upd_same] at e
        by_cases e1 : i = k
        · rw [e1, upd_same] at e; omega
        · rw [hnb i (by omega)] at e
          have := h.spine.nb_lt (i := i) (by omega)
          omega
      · rw [hlb j (by omega)] at e
        by_cases e1 : i = k
        · rw [e1, upd_same] at e
          have := hlt0 j (by omega)
          omega
        · rw [hnb i (by omega)] at e
          exact h.apart.leaves i j (by omega) (by omega) e
  · rw [alloc_size, alloc_size, es]
    by_cases e : i = k + 1
    · subst e
      rw [upd_same]
      omega
    · rw [hlb i (by omega)]
      have := hlt0 i (by omega)
      omega
  · by_cases e : i = k
    · subst e
      rw [upd_same]
      have := h.below.size
      omega
    · rw [hnb i (by omega)]
      exact h.nnb i (by omega)
end Go.Proofs.YtpjbeenakkfcfaaGreat

/- The closed facts of a row over plain parameters, out of few: for whatever program. No condition. -/
import Derived.JoinedOf
import Derived.ProofKit
namespace Go.Proofs.YtgnilcmhaobgeaaGreat.Closed
open Go
/-- Type t leads to no map, interface, function, and not back to itself; and it is readable. -/
structure Flat (P : Program) (t : TypeId) : Prop where
  read : P.readableRec t = true
  maps : P.mapsRec t = false
  ifaces : P.ifacesRec t = false
  loops : P.loopsFrom t = false
  wide : P.wideKeysFrom t = false
  veiled : P.veiledRec t = false

theorem grown_fix {P : Program} {L : List TypeId} (h : P.grow L = L) : ∀ n, P.grown n L = L
  | 0 => rfl
  | n + 1 => by unfold Program.grown; rw [h]; exact grown_fix h n
theorem book_plain {P : Program} {t : TypeId} (h : P.partsOf t = []) : P.book t = [t] := by
  unfold Program.book
  refine grown_fix ?_ _
  unfold Program.grow
  simp [h, List.eraseDups_cons]
theorem book_one {P : Program} {t e : TypeId} (hs : 0 < P.types.size) (h : P.partsOf t = [e]) (he : P.partsOf e = []) (hne : (e == t) = false) : P.book t = [t, e] := by
  unfold Program.book
  obtain ⟨n, hn⟩ : ∃ n, P.types.size = n + 1 := ⟨P.types.size - 1, by omega⟩
  rw [hn]
  unfold Program.grown
  have g1 : P.grow [t] = [t, e] := by unfold Program.grow; simp [h, List.eraseDups_cons, hne]
  rw [g1]
  refine grown_fix ?_ _
  unfold Program.grow
  simp [h, he, List.eraseDups_cons, hne]

theorem flat_int {P : Program} {t : TypeId} {k : IntKind} (h : P.underlying t = some (.int k)) : Flat P t := by
  have hp : P.partsOf t = [] := by unfold Program.partsOf; rw [h]
  have hb := book_plain hp
  exact ⟨by simp [Program.readableRec, hb, hp, Program.fineRow, h], by simp [Program.mapsRec, hb, h], by simp [Program.ifacesRec, hb, h], by simp [Program.loopsFrom, hb, hp], by simp [Program.wideKeysFrom, hb, h], by simp [Program.veiledRec, hb, h]⟩
theorem flat_bool {P : Program} {t : TypeId} (h : P.underlying t = some .bool) : Flat P t := by
  have hp : P.partsOf t = [] := by unfold Program.partsOf; rw [h]
  have hb := book_plain hp
  exact ⟨by simp [Program.readableRec, hb, hp, Program.fineRow, h], by simp [Program.mapsRec, hb, h], by simp [Program.ifacesRec, hb, h], by simp [Program.loopsFrom, hb, hp], by simp [Program.wideKeysFrom, hb, h], by simp [Program.veiledRec, hb, h]⟩
theorem flat_string {P : Program} {t : TypeId} (h : P.underlying t = some .string) : Flat P t := by
  have hp : P.partsOf t = [] := by unfold Program.partsOf; rw [h]
  have hb := book_plain hp
  exact ⟨by simp [Program.readableRec, hb, hp, Program.fineRow, h], by simp [Program.mapsRec, hb, h], by simp [Program.ifacesRec, hb, h], by simp [Program.loopsFrom, hb, hp], by simp [Program.wideKeysFrom, hb, h], by simp [Program.veiledRec, hb, h]⟩
/-- A slice of a plain type. -/
theorem flat_slice {P : Program} {t e : TypeId} (hs : 0 < P.types.size) (h : P.underlying t = some (.slice e)) (hc : P.cellsOf e = 1) (hne : (e == t) = false)
    (he : (∃ k, P.underlying e = some (.int k)) ∨ P.underlying e = some .bool ∨ P.underlying e = some .string) : Flat P t := by
  have hp : P.partsOf t = [e] := by unfold Program.partsOf; rw [h]
  have hq : P.partsOf e = [] := by unfold Program.partsOf; rcases he with ⟨k, he⟩ | he | he <;> rw [he]
  have hb := book_one hs hp hq hne
  have hbe := book_plain hq
  have hne2 : t ≠ e := fun x => (by simpa using hne : e ≠ t) x.symm
  rcases he with ⟨k, he⟩ | he | he <;>
  exact ⟨by simp [Program.readableRec, hb, hp, hq, Program.fineRow, h, he, hc], by simp [Program.mapsRec, hb, h, he], by simp [Program.ifacesRec, hb, h, he], by simp [Program.loopsFrom, hb, hp, hq, hbe, hne2], by simp [Program.wideKeysFrom, hb, h, he], by simp [Program.veiledRec, hb, h, he]⟩

/-- What a row over plain parameters says of itself, but for the four lists that are reckoned off the calls. -/
def PlainRow (c : OpenClaim) : Bool :=
  c.stops == [] && c.knobs == [] && !c.maps && !c.ifaces && !c.mapsOut && !c.loops && !c.wideKeys && !c.ifacesOut && !c.loopsOut && c.plainKeys && c.shortTexts.isNone && !c.lifted && c.domain.isEmpty && c.kinds == [] && (c.pinned == c.pinnedBy) && !c.veiled && (match c.start with | .entering => true | _ => false) && c.laid.isEmpty

theorem closed_of {P : Program} {f : FuncId} {fn : Func} {s : ChangeSpec} {c : OpenClaim}
    (lo : laidOutB P = true) (mr : mapsRowed P = true) (pk : P.plainKeys = true) (hh : P.stopsHeard = true) (he : P.mayEnter = true) (hl : P.liftsFinal = false) (st : P.stops = []) (kn : P.stopKnobs = [])
    (hm : P.make = some c.make) (hw : c.wf (OpenSpec.ofChange s) = true) (hv : s.vars = []) (hrow : PlainRow c = true)
    (hp : ∀ t ∈ fn.params.toList, Flat P t) (hr : ∀ t ∈ fn.resultTypes.toList, Flat P t ∧ t < P.types.size)
    (hin : c.inPlace = P.inPlace f) (hun : c.unfollowed = P.unfollowed f) (hre : c.recurses = P.recurses f) (hna : c.named = P.varsNamed f) (hne : c.named = []) (hmo : P.mapsAmong fn.resultTypes.toList = false) :
    joinedFacts P f fn s c = true := by
  simp only [PlainRow, Bool.and_eq_true, beq_iff_eq, Bool.not_eq_true', List.isEmpty_iff] at hrow
  obtain ⟨⟨⟨⟨⟨⟨⟨⟨⟨⟨⟨⟨⟨⟨⟨⟨⟨r1, r2⟩, r3⟩, r4⟩, r5⟩, r6⟩, r7⟩, r8⟩, r9⟩, r10⟩, r11⟩, r12⟩, r13⟩, r14⟩, r15⟩, r16⟩, r17⟩, r18⟩ := hrow
  have hvt : s.plain.varTypes P = [] := by unfold ChangeSpec.plain; simp [DataSpec.varTypes, hv]
  have any_no : ∀ (q : TypeId → Bool) (l : List TypeId), (∀ t ∈ l, q t = false) → l.any q = false := fun q l h => by simpa using h
  have f1 : fn.params.toList.any (P.mapsRec ·) = false := any_no _ _ fun t ht => (hp t ht).maps
  have f2 : fn.params.toList.any (P.ifacesRec ·) = false := any_no _ _ fun t ht => (hp t ht).ifaces
  have f3 : fn.params.toList.any (P.loopsFrom ·) = false := any_no _ _ fun t ht => (hp t ht).loops
  have f4 : fn.params.toList.any (P.wideKeysFrom ·) = false := any_no _ _ fun t ht => (hp t ht).wide
  have f5 : fn.params.toList.any (P.veiledRec ·) = false := any_no _ _ fun t ht => (hp t ht).veiled
  have g2 : fn.resultTypes.toList.any (P.ifacesRec ·) = false := any_no _ _ fun t ht => (hr t ht).1.ifaces
  have g3 : fn.resultTypes.toList.any (P.loopsFrom ·) = false := any_no _ _ fun t ht => (hr t ht).1.loops
  have g4 : fn.resultTypes.toList.any (P.wideKeysFrom ·) = false := any_no _ _ fun t ht => (hr t ht).1.wide
  have g5 : fn.resultTypes.toList.any (P.veiledRec ·) = false := any_no _ _ fun t ht => (hr t ht).1.veiled
  have p1 : fn.params.all (P.readableRec ·) = true := by
    rw [Array.all_eq_true_iff_forall_mem]; exact fun t ht => (hp t (by simpa using ht)).read
  have p2 : fn.resultTypes.all (fun t => P.readableRec t && decide (t < P.types.size)) = true := by
    rw [Array.all_eq_true_iff_forall_mem]; intro t ht; have h := hr t (by simpa using ht); simp [h.1.read, h.2]
  have own : ∀ t, P.veiledRec t = false → P.veiledOwn t = true := fun t h => by unfold Program.veiledOwn; simp [h]
  have vf : c.veiledFits P fn.params.toList (fn.params.toList ++ fn.resultTypes.toList) = true := by
    unfold OpenClaim.veiledFits
    have hst : c.start = .entering := by cases h : c.start <;> simp [h] at r17 ⊢
    have hall : ((fn.params.toList ++ fn.resultTypes.toList).all (P.veiledOwn ·)) = true := by
      rw [List.all_eq_true]; intro t ht
      rcases List.mem_append.1 ht with h | h
      · exact own t (hp t h).veiled
      · exact own t (hr t h).1.veiled
    simp only [hst, r18, List.filterMap_nil, List.append_nil, hall, Bool.true_and, Bool.true_or]
  have hnt : namedTie P [] [] = true := by simp [namedTie]
  have hvn : P.varsNamed f = [] := hna ▸ hne
  unfold joinedFacts
  rw [hvt, List.append_nil]
  have sp : fn.params.toList ++ [] = fn.params.toList := List.append_nil _
  simp only [hw, lo, mr, p1, hnt, r1, r2, st, kn, hin, hun, hre, hne, hvn, r3, r4, r5, r6, r7, r8, r9, r10, r11, r12, r13, r14, r15, r16, f1, f2, f3, f4, f5, g2, g3, g4, g5, p2, pk, hh, he, hl, hm, hmo, hv, vf, List.any_append, List.all_nil, Bool.or_self, beq_self_eq_true, Bool.and_self, List.isEmpty_nil, if_true]
end Go.Proofs.YtgnilcmhaobgeaaGreat.Closed

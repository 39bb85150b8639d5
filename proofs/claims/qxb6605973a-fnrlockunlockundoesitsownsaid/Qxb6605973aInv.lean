import Derived.Test.Qxb6605973aBase
namespace Go.Proofs.Qxb6605973a.Rlk
open Go.RowKit Go.Maps
set_option linter.unusedVariables false

/-- the cells of a joinRecords -/
def jrF (st : Int) (nm : Value) (i : Nat) : Value :=
  if i = 1 then .int .i32 st else if i = 2 then .int .u32 0 else if i = 3 then nm else if i = 0 then .pointer none else .map none
/-- the cells of a nameLock: 4: the readers, 6: the users -/
def lkF (rc us : Nat) (i : Nat) : Value :=
  if i = 4 then .int .i32 rc else if i = 6 then .int .i64 us else if i = 0 ∨ i = 5 then .int .i32 0 else .int .u32 0
def upd (f : Key → Nat) (k : Key) (v : Nat) (k' : Key) : Nat := if k' = k then v else f k'
theorem upd_same (f : Key → Nat) (k : Key) (v : Nat) : upd f k v k = v := if_pos rfl
theorem upd_other {f : Key → Nat} {k k' : Key} {v : Nat} (h : k' ≠ k) : upd f k v k' = f k' := if_neg h

/-- the map of names: its keys are the names that are used; each leads to its lock -/
def MapIs (J : Nat) (nm : Value) (L us : Key → Nat) (sz N : Nat) (w : World) : Prop :=
  (nm = .map none ∧ (∀ k, us k = 0) ∧ sz = 0) ∨
  ∃ bm D, nm = .map (some bm) ∧ J < bm ∧ w.ownsMap Try.prog 9 ptrR bm N D ∧ Maps.size D = sz ∧ (∀ k, us k = 0 → Maps.has D (.string k) = false) ∧
    (∀ k, 0 < us k → Maps.has D (.string k) = true ∧ D.atKey (.string k) .nil = .lit (.int .i64 (L k)))

structure Inv (st : Int) (J : Nat) (nm : Value) (L rc us : Key → Nat) (sz N : Nat) (w : World) : Prop where
  row : w.rowIs J 59 5 (jrF st nm)
  lks : ∀ k, 0 < us k → J < L k ∧ w.rowIs (L k) 67 7 (lkF (rc k) (us k))
  inj : ∀ k k', 0 < us k → 0 < us k' → L k = L k' → k = k'
  zero : ∀ k, us k = 0 → rc k = 0
  map : MapIs J nm L us sz N w

/-- what a step leaves alone: all below J; every row that is neither a joinRecords nor a nameLock -/
structure Frm (J : Nat) (w w' : World) : Prop where
  bel : Below J w w'
  keep : ∀ (q : Nat) (c : Array Value) (t : TypeId) (m : Nat × Nat), w.heap[q]? = some (.cells c t m) → t ≠ 59 → t ≠ 67 → w'.heap[q]? = some (.cells c t m)
theorem Frm.refl (J : Nat) (w : World) : Frm J w w := ⟨Below.refl _ _, fun _ _ _ _ h _ _ => h⟩
theorem Frm.trans {J : Nat} {a b c : World} (h : Frm J a b) (k : Frm J b c) : Frm J a c := ⟨h.bel.trans k.bel, fun q x t m hq h1 h2 => k.keep q x t m (h.keep q x t m hq h1 h2) h1 h2⟩
theorem Frm.alloc {J : Nat} {a w : World} (h : Frm J a w) (hJ : J ≤ w.heap.size) (o : Obj) : Frm J a (w.alloc o) :=
  ⟨h.bel.alloc hJ o, fun q x t m hq h1 h2 => by
    have hk := h.keep q x t m hq h1 h2
    rw [Below.heap_alloc _ _ _ (Array.getElem?_eq_some_iff.1 hk).1]
    exact hk⟩
theorem Frm.drew {J : Nat} {a w : World} (h : Frm J a w) : Frm J a w.drew := ⟨h.bel.drew, h.keep⟩
theorem Frm.setRow {J b n : Nat} {t0 : TypeId} {f : Nat → Value} {a w : World} (h : Frm J a w) (hb : J ≤ b) (hr : w.rowIs b t0 n f) (ht : t0 = 59 ∨ t0 = 67) (i : Nat) (v : Value) : Frm J a (w.setCell ⟨b, i, none⟩ v) :=
  ⟨h.bel.setCell hb v, fun q x t m hq h1 h2 => by
    have hk := h.keep q x t m hq h1 h2
    rw [Below.heap_setCell _ _ _ _ ?_]
    · exact hk
    · intro e
      obtain ⟨c, hc, _⟩ := hr
      have e' : q = b := e
      rw [e', hc] at hk
      simp only [Option.some.injEq, Obj.cells.injEq] at hk
      obtain ⟨_, e2, _⟩ := hk
      rcases ht with e3 | e3
      · exact h1 (e2.symm.trans e3)
      · exact h2 (e2.symm.trans e3)⟩
theorem Frm.grown {J bm : Nat} {a w w' : World} (h : Frm J a w) (hg : w.grownBy w' (some bm)) (hJ : J ≤ bm) (hJs : J ≤ w.heap.size) (hm : ∀ (c : Array Value) (t : TypeId) (m : Nat × Nat), w.heap[bm]? ≠ some (.cells c t m)) : Frm J a w' :=
  ⟨h.bel.grown hg hJs (fun k e => by cases e; exact hJ), fun q x t m hq h1 h2 => by
    have hk := h.keep q x t m hq h1 h2
    have hne : q ≠ bm := fun e => hm x t m (e ▸ hk)
    rw [hg.block q (Array.getElem?_eq_some_iff.1 hk).1 (by simpa using hne)]
    exact hk⟩
theorem map_no_cells {w : World} {bm n : Nat} {D : DataW Unit} (h : w.ownsMap Try.prog 9 ptrR bm n D) : ∀ (c : Array Value) (t : TypeId) (m : Nat × Nat), w.heap[bm]? ≠ some (.cells c t m) := by
  intro c t m e
  obtain ⟨es, clock, hb, _⟩ := h
  rw [hb] at e
  cases e
theorem map_ne_row {w : World} {bm n b N : Nat} {D : DataW Unit} {t : TypeId} {f : Nat → Value} (h : w.ownsMap Try.prog 9 ptrR bm n D) (hr : w.rowIs b t N f) : bm ≠ b := by
  intro e
  subst e
  obtain ⟨c, hc, _⟩ := hr
  exact map_no_cells h _ _ _ hc
theorem row_ne_row {w : World} {b b' n n' : Nat} {t t' : TypeId} {f f' : Nat → Value} (h : w.rowIs b t n f) (h' : w.rowIs b' t' n' f') (ht : t ≠ t') : b ≠ b' := by
  intro e
  subst e
  obtain ⟨c, hc, _⟩ := h
  obtain ⟨c', hc', _⟩ := h'
  rw [hc] at hc'
  simp only [Option.some.injEq, Obj.cells.injEq] at hc'
  exact ht hc'.2.1
theorem rowIs_grown {w w' : World} {bm b n : Nat} {t : TypeId} {f : Nat → Value} (h : w.rowIs b t n f) (hg : w.grownBy w' (some bm)) (hne : b ≠ bm) : w'.rowIs b t n f :=
  h.of_block (hg.block b h.lt (by simpa using hne))

theorem jr_set1 (st st' : Int) (nm : Value) (i : Nat) : (if i = 1 then .int .i32 st' else jrF st nm i) = jrF st' nm i := by
  unfold jrF; split <;> rfl
theorem jr_set3 (st : Int) (nm nm' : Value) (i : Nat) : (if i = 3 then nm' else jrF st nm i) = jrF st nm' i := by
  unfold jrF
  by_cases h : i = 3
  · subst h; rfl
  · rw [if_neg h]; simp [h]
theorem lk_set4 (rc rc' us : Nat) (i : Nat) : (if i = 4 then .int .i32 rc' else lkF rc us i) = lkF rc' us i := by
  unfold lkF; split <;> rfl
theorem lk_set6 (rc us us' : Nat) (i : Nat) : (if i = 6 then .int .i64 us' else lkF rc us i) = lkF rc us' i := by
  unfold lkF
  by_cases h : i = 6
  · subst h; rfl
  · rw [if_neg h]; simp [h]

section
variable {st : Int} {J : Nat} {nm : Value} {L rc us : Key → Nat} {sz N : Nat} {w : World}

theorem Inv.lk_ne (h : Inv st J nm L rc us sz N w) {k : Key} (hk : 0 < us k) : L k ≠ J := row_ne_row (h.lks k hk).2 h.row (by decide)

/-- a cell of the joinRecords is written -/
theorem Inv.setJ (h : Inv st J nm L rc us sz N w) (st' : Int) : Inv st' J nm L rc us sz N (w.setCell ⟨J, 1, none⟩ (.int .i32 st')) := by
  refine ⟨(h.row.set 1 _).congr (fun i _ => jr_set1 st st' nm i), fun k hk => ⟨(h.lks k hk).1, (h.lks k hk).2.setOther (h.lk_ne hk) _⟩, h.inj, h.zero, ?_⟩
  rcases h.map with h0 | ⟨bm, D, e, hJ, hown, r⟩
  · exact .inl h0
  · exact .inr ⟨bm, D, e, hJ, hown.setCell (map_ne_row hown h.row) _, r⟩

/-- a lock's count of readers -/
theorem Inv.setRc (h : Inv st J nm L rc us sz N w) {k : Key} (hk : 0 < us k) (c : Nat) : Inv st J nm L (upd rc k c) us sz N (w.setCell ⟨L k, 4, none⟩ (.int .i32 c)) := by
  refine ⟨h.row.setOther (h.lk_ne hk).symm _, fun k' hk' => ⟨(h.lks k' hk').1, ?_⟩, h.inj, fun k' hk' => ?_, ?_⟩
  · by_cases e : k' = k
    · subst e
      rw [upd_same]
      exact ((h.lks _ hk').2.set 4 _).congr (fun i _ => lk_set4 _ _ _ i)
    · rw [upd_other e]
      exact (h.lks _ hk').2.setOther (fun e2 => e (h.inj _ _ hk' hk e2)) _
  · rw [upd_other (fun e => by subst e; omega)]; exact h.zero k' hk'
  · rcases h.map with h0 | ⟨bm, D, e, hJ, hown, r⟩
    · exact .inl h0
    · exact .inr ⟨bm, D, e, hJ, hown.setCell (map_ne_row hown (h.lks k hk).2) _, r⟩

/-- a lock's count of users, still used -/
theorem Inv.setUs (h : Inv st J nm L rc us sz N w) {k : Key} (hk : 0 < us k) (c : Nat) (hc : 0 < c) : Inv st J nm L rc (upd us k c) sz N (w.setCell ⟨L k, 6, none⟩ (.int .i64 c)) := by
  have iff : ∀ k', 0 < upd us k c k' → 0 < us k' := fun k' hk' => by
    by_cases e : k' = k
    · subst e; exact hk
    · rwa [upd_other e] at hk'
  have zer : ∀ k', upd us k c k' = 0 → us k' = 0 := fun k' hk' => by
    by_cases e : k' = k
    · subst e; rw [upd_same] at hk'; omega
    · rwa [upd_other e] at hk'
  refine ⟨h.row.setOther (h.lk_ne hk).symm _, fun k' hk' => ⟨(h.lks k' (iff k' hk')).1, ?_⟩, fun k1 k2 h1 h2 => h.inj k1 k2 (iff _ h1) (iff _ h2), fun k' hk' => h.zero k' (zer k' hk'), ?_⟩
  · by_cases e : k' = k
    · subst e
      rw [upd_same]
      exact ((h.lks _ hk).2.set 6 _).congr (fun i _ => lk_set6 _ _ _ i)
    · rw [upd_other e]
      exact (h.lks _ (iff k' hk')).2.setOther (fun e2 => e (h.inj _ _ (iff k' hk') hk e2)) _
  · rcases h.map with ⟨_, h0, _⟩ | ⟨bm, D, e, hJ, hown, hs, hz, hp⟩
    · rw [h0 k] at hk; omega
    · exact .inr ⟨bm, D, e, hJ, hown.setCell (map_ne_row hown (h.lks k hk).2) _, hs, fun k' hk' => hz k' (zer k' hk'), fun k' hk' => hp k' (iff k' hk')⟩

/-- a map for the names is made -/
theorem Inv.mkmap (h : Inv st J (.map none) L rc us sz N w) : Inv st J (.map (some w.heap.size)) L rc us 0 0 ((w.setCell ⟨J, 3, none⟩ (.map (some w.heap.size))).alloc (.map #[] 0)) ∧ (∀ k, us k = 0) ∧
    ((w.setCell ⟨J, 3, none⟩ (.map (some w.heap.size))).alloc (.map #[] 0)).ownsMap Try.prog 9 ptrR w.heap.size 0 (.map []) := by
  have hu : ∀ k, us k = 0 := by
    rcases h.map with ⟨_, h0, _⟩ | ⟨bm, D, e, _⟩
    · exact h0
    · cases e
  have hs : (w.setCell ⟨J, 3, none⟩ (.map (some w.heap.size))).heap.size = w.heap.size := by simp [World.setCell]
  have hown : ((w.setCell ⟨J, 3, none⟩ (.map (some w.heap.size))).alloc (.map #[] 0)).ownsMap Try.prog 9 ptrR w.heap.size 0 (.map []) := by
    have := World.ownsMap_made (H := Unit) (w.setCell ⟨J, 3, none⟩ (.map (some w.heap.size))) Try.prog 9 ptrR
    rwa [hs] at this
  refine ⟨⟨(((h.row.set 3 _).congr (fun i _ => jr_set3 st _ _ i)).alloc _), fun k hk => absurd hk (by rw [hu k]; omega), fun k k' hk => absurd hk (by rw [hu k]; omega), h.zero, .inr ⟨_, _, rfl, h.row.lt, hown, rfl, fun k _ => rfl, fun k hk => absurd hk (by rw [hu k]; omega)⟩⟩, hu, hown⟩

abbrev lkO : Obj := .cells #[.int .i32 0, .int .u32 0, .int .u32 0, .int .u32 0, .int .i32 0, .int .i32 0, .int .i64 0] 67
theorem lk_new (w : World) : (w.alloc lkO).rowIs w.heap.size 67 7 (lkF 0 0) :=
  World.rowIs_alloc w #[.int .i32 0, .int .u32 0, .int .u32 0, .int .u32 0, .int .i32 0, .int .i32 0, .int .i64 0] 67 (lkF 0 0) (fun i hi => by
    match i, hi with
    | 0, _ => rfl
    | 1, _ => rfl
    | 2, _ => rfl
    | 3, _ => rfl
    | 4, _ => rfl
    | 5, _ => rfl
    | 6, _ => rfl)

/-- a new name -/
theorem Inv.fresh {bm : Nat} {D : DataW Unit} {w3 : World} (h : Inv st J (.map (some bm)) L rc us sz N w) {k : Key} (hk : us k = 0) (hJ : J < bm) (hown : w.ownsMap Try.prog 9 ptrR bm N D) (hs : Maps.size D = sz)
    (hz : ∀ k, us k = 0 → Maps.has D (.string k) = false) (hp : ∀ k, 0 < us k → Maps.has D (.string k) = true ∧ D.atKey (.string k) .nil = .lit (.int .i64 (L k)))
    (hown3 : w3.ownsMap Try.prog 9 ptrR bm (N + 1) (D.put (.string k) (.lit (.int .i64 w.heap.size)))) (hg : (w.alloc lkO).grownBy w3 (some bm)) :
    Inv st J (.map (some bm)) (upd L k w.heap.size) rc (upd us k 1) (sz + 1) (N + 1) (w3.setCell ⟨w.heap.size, 6, none⟩ (.int .i64 1)) := by
  have hbm := hown.lt
  have hnew : w3.rowIs w.heap.size 67 7 (lkF 0 0) := rowIs_grown (lk_new w) hg (by omega)
  have old : ∀ k', k' ≠ k → 0 < upd us k 1 k' → 0 < us k' := fun k' e hk' => by rwa [upd_other e] at hk'
  have lt : ∀ k', 0 < us k' → L k' < w.heap.size := fun k' hk' => (h.lks k' hk').2.lt
  refine ⟨(rowIs_grown (h.row.alloc _) hg (by omega)).setOther (by have := h.row.lt; show J ≠ w.heap.size; omega) _, fun k' hk' => ?_, fun k1 k2 h1 h2 e => ?_, fun k' hk' => ?_, .inr ⟨bm, _, rfl, hJ, hown3.setCell (by show bm ≠ w.heap.size; omega) _, ?_, fun k' hk' => ?_, fun k' hk' => ?_⟩⟩
  · by_cases e : k' = k
    · subst e
      rw [upd_same, upd_same, h.zero _ hk]
      exact ⟨h.row.lt, (hnew.set 6 _).congr (fun i _ => lk_set6 0 0 1 i)⟩
    · have hu := old k' e hk'
      rw [upd_other e, upd_other e]
      refine ⟨(h.lks k' hu).1, (rowIs_grown ((h.lks k' hu).2.alloc _) hg (map_ne_row hown (h.lks k' hu).2).symm).setOther ?_ _⟩
      have := lt k' hu
      show L k' ≠ w.heap.size
      omega
  · by_cases e1 : k1 = k
    · by_cases e2 : k2 = k
      · rw [e1, e2]
      · subst e1
        rw [upd_same, upd_other e2] at e
        have := lt k2 (old k2 e2 h2)
        omega
    · by_cases e2 : k2 = k
      · subst e2
        rw [upd_same, upd_other e1] at e
        have := lt k1 (old k1 e1 h1)
        omega
      · rw [upd_other e1, upd_other e2] at e
        exact h.inj k1 k2 (old k1 e1 h1) (old k2 e2 h2) e
  · by_cases e : k' = k
    · subst e; rw [upd_same] at hk'; omega
    · rw [upd_other e] at hk'; exact h.zero k' hk'
  · rw [Maps.size_put (hown.tidy law9), hz k hk, hs]; simp
  · by_cases e : k' = k
    · subst e; rw [upd_same] at hk'; omega
    · rw [upd_other e] at hk'
      rw [Maps.has_put_other (by simpa using e)]
      exact hz k' hk'
  · by_cases e : k' = k
    · subst e
      rw [upd_same]
      exact ⟨Maps.has_put_same (k := .string k') hown.isMap trivial _, Maps.atKey_put_same (k := .string k') hown.isMap trivial _ _⟩
    · have hu := old k' e hk'
      rw [upd_other e, Maps.has_put_other (by simpa using e), Maps.atKey_put_other (by simpa using e)]
      exact hp k' hu

/-- the last user is gone: the name is forgotten -/
theorem Inv.forget {bm : Nat} {D : DataW Unit} {w3 : World} (h : Inv st J (.map (some bm)) L rc us sz N w) {k : Key} (hk : us k = 1) (hrc : rc k = 0) (hJ : J < bm) (hown : w.ownsMap Try.prog 9 ptrR bm N D) (hs : Maps.size D = sz)
    (hz : ∀ k, us k = 0 → Maps.has D (.string k) = false) (hp : ∀ k, 0 < us k → Maps.has D (.string k) = true ∧ D.atKey (.string k) .nil = .lit (.int .i64 (L k)))
    (hown3 : w3.ownsMap Try.prog 9 ptrR bm N (D.del (.string k))) (hg : (w.setCell ⟨L k, 6, none⟩ (.int .i64 0)).grownBy w3 (some bm)) :
    Inv st J (.map (some bm)) L rc (upd us k 0) (sz - 1) N w3 := by
  have hk0 : 0 < us k := by omega
  have old : ∀ k', 0 < upd us k 0 k' → k' ≠ k ∧ 0 < us k' := fun k' hk' => by
    by_cases e : k' = k
    · subst e; rw [upd_same] at hk'; omega
    · rw [upd_other e] at hk'; exact ⟨e, hk'⟩
  refine ⟨rowIs_grown (h.row.setOther (h.lk_ne hk0).symm _) hg (by omega), fun k' hk' => ?_, fun k1 k2 h1 h2 e => h.inj k1 k2 (old k1 h1).2 (old k2 h2).2 e, fun k' hk' => ?_, .inr ⟨bm, _, rfl, hJ, hown3, ?_, fun k' hk' => ?_, fun k' hk' => ?_⟩⟩
  · obtain ⟨e, hu⟩ := old k' hk'
    rw [upd_other e]
    exact ⟨(h.lks k' hu).1, rowIs_grown ((h.lks k' hu).2.setOther (fun e2 => e (h.inj _ _ hu hk0 e2)) _) hg (map_ne_row hown (h.lks k' hu).2).symm⟩
  · by_cases e : k' = k
    · subst e; exact hrc
    · rw [upd_other e] at hk'; exact h.zero k' hk'
  · have := Maps.size_del (k := .string k) (hown.tidy law9)
    rw [(hp k hk0).1, hs] at this
    simp at this
    omega
  · by_cases e : k' = k
    · subst e; exact Maps.has_del_same
    · rw [upd_other e] at hk'
      rw [Maps.has_del_other (by simpa using e)]
      exact hz k' hk'
  · obtain ⟨e, hu⟩ := old k' hk'
    rw [Maps.has_del_other (by simpa using e), Maps.atKey_del_other (by simpa using e)]
    exact hp k' hu
end
end Go.Proofs.Qxb6605973a.Rlk

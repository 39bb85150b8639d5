import Derived.Test.Qxb6605973aInv
import Derived.Conc.RwLone
namespace Go.Proofs.Qxb6605973a.Rlk
open Go.RowKit Go.WideMaps Go.Maps
open Go.MuLone
set_option linter.unusedVariables false

section
variable {J : Nat} {L rc us : Key → Nat} {sz N : Nat} {w : World}
theorem Inv.c1 {st : Int} {nm : Value} (h : Inv st J nm L rc us sz N w) : w.cell? ⟨J, 1, none⟩ = some (.int .i32 st) := h.row.cell (i := 1) (by omega)
theorem Inv.c3 {st : Int} {nm : Value} (h : Inv st J nm L rc us sz N w) : w.cell? ⟨J, 3, none⟩ = some nm := h.row.cell (i := 3) (by omega)
theorem Inv.c6 {st : Int} {nm : Value} (h : Inv st J nm L rc us sz N w) {k : Key} (hk : 0 < us k) : w.cell? ⟨L k, 6, none⟩ = some (.int .i64 (us k)) := (h.lks k hk).2.cell (i := 6) (by omega)
theorem Inv.c4 {st : Int} {nm : Value} (h : Inv st J nm L rc us sz N w) {k : Key} (hk : 0 < us k) : w.cell? ⟨L k, 4, none⟩ = some (.int .i32 (rc k)) := (h.lks k hk).2.cell (i := 4) (by omega)

/-- what the map answers at a name that is used -/
theorem Inv.look {st : Int} {bm : Nat} (h : Inv st J (.map (some bm)) L rc us sz N w) {s : ByteArray} (hs : s.size ≤ maxLen) (hk : 0 < us s.data.toList) :
    (Instr.lookup 40 (.map (some bm)) (.string s) false).run Try.prog w = .ok (ptr (L s.data.toList)) w := by
  rcases h.map with ⟨e, _⟩ | ⟨bm', D, e, hJ, hown, hsz, hz, hp⟩
  · cases e
  · cases e
    obtain ⟨v, ps, hrun, hv⟩ := hown.lookup law9 Try.underlying40 (zero42 w) ptrR_nil (keyOf_string_mk Try.underlying9 hs)
    rw [(hp _ hk).2] at hv
    rw [ptrR_ptr_inv hv] at hrun
    exact hrun
theorem Inv.look0 {st : Int} {bm : Nat} (h : Inv st J (.map (some bm)) L rc us sz N w) {s : ByteArray} (hs : s.size ≤ maxLen) (hk : us s.data.toList = 0) :
    (Instr.lookup 40 (.map (some bm)) (.string s) false).run Try.prog w = .ok (.pointer none) w := by
  rcases h.map with ⟨e, _⟩ | ⟨bm', D, e, hJ, hown, hsz, hz, hp⟩
  · cases e
  · cases e
    obtain ⟨v, ps, hrun, hv⟩ := hown.lookup law9 Try.underlying40 (zero42 w) ptrR_nil (keyOf_string_mk Try.underlying9 hs)
    rw [Maps.atKey_of_not_has (hz _ hk)] at hv
    rw [ptrR_nil_inv hv] at hrun
    exact hrun

set_option maxRecDepth 100000 in
set_option maxHeartbeats 1600000 in
theorem use_old {bm : Nat} (h : Inv 0 J (.map (some bm)) L rc us sz N w) (s : ByteArray) (hs : s.size ≤ maxLen) (hk : 0 < us s.data.toList) (hb : us s.data.toList ≤ 100000) :
    Calls Try.prog 20 #[ptr J, .string s] w fun e w' => e = .returned (ptr (L s.data.toList)) ∧ Inv 0 J (.map (some bm)) L rc (upd us s.data.toList (us s.data.toList + 1)) sz N w' ∧ Frm J w w' := by
  obtain ⟨k, ek⟩ : ∃ k, k = s.data.toList := ⟨_, rfl⟩
  rw [← ek] at hk hb ⊢
  have EK : Hid (k = s.data.toList) := ek
  clear ek
  have c1 := h.c1
  have f1 := h.row.frozen 1
  go_enter_defers Try.func20, Try.ntmps20
  go_wp2_with (first
    | (go_at_call 25; refine (lock_free muLib ⟨J, 1, none⟩ _ c1 f1).mono ?_; rintro e w1 ⟨rfl, hw1⟩; have I1 : Inv 1 J (.map (some bm)) L rc us sz N w1 := hw1 ▸ h.setJ 1; have F1 : Frm J w w1 := hw1 ▸ (Frm.refl J w).setRow (Nat.le_refl _) h.row (.inl rfl) 1 _; clear hw1 c1 f1; have c3 := I1.c3; have hlo := I1.look hs (EK.out ▸ hk); rw [← EK.out] at hlo; have c6 := I1.c6 hk; have f6 := (I1.lks k hk).2.frozen 6))
  refine leaves_cons (f := 26) (args := #[.pointer (some ⟨J, 1, none⟩)]) (by simp) (by simp [go_sem]) ?_
  have e1 : ((us k + 1 : Nat) : Int) = (us k : Int) + 1 := by omega
  have I2 := I1.setUs hk (us k + 1) (by omega)
  have F2 := F1.setRow (Nat.le_of_lt (I1.lks k hk).1) (I1.lks k hk).2 (.inr rfl) 6 (.int .i64 ((us k + 1 : Nat) : Int))
  rw [e1] at I2 F2
  refine (unlock_deferred muLib ⟨J, 1, none⟩ .returning _ I2.c1 (I2.row.frozen 1)).mono ?_
  rintro e u' w'' ⟨rfl, rfl, rfl⟩
  exact ⟨_, results_tmp rfl _ _ _, rfl, I2.setJ 0, F2.setRow (Nat.le_refl _) I2.row (.inl rfl) 1 _⟩

theorem map_facts {st : Int} {bm : Nat} (h : Inv st J (.map (some bm)) L rc us sz N w) : ∃ D, J < bm ∧ w.ownsMap Try.prog 9 ptrR bm N D ∧ Maps.size D = sz ∧ (∀ k, us k = 0 → Maps.has D (.string k) = false) ∧
    (∀ k, 0 < us k → Maps.has D (.string k) = true ∧ D.atKey (.string k) .nil = .lit (.int .i64 (L k))) := by
  rcases h.map with ⟨e, _⟩ | ⟨bm', D, e, r⟩
  · cases e
  · cases e
    exact ⟨D, r⟩

set_option maxRecDepth 100000 in
set_option maxHeartbeats 1600000 in
theorem use_new {bm : Nat} (h : Inv 0 J (.map (some bm)) L rc us sz N w) (s : ByteArray) (hs : s.size ≤ maxLen) (hk : us s.data.toList = 0) (hN : N < maxLen) :
    Calls Try.prog 20 #[ptr J, .string s] w fun e w' => ∃ b, e = .returned (ptr b) ∧ Inv 0 J (.map (some bm)) (upd L s.data.toList b) rc (upd us s.data.toList 1) (sz + 1) (N + 1) w' ∧ Frm J w w' := by
  obtain ⟨k, ek⟩ : ∃ k, k = s.data.toList := ⟨_, rfl⟩
  have hkey := keyOf_string_mk Try.underlying9 hs
  rw [← ek] at hk hkey ⊢
  have EK : Hid (k = s.data.toList) := ek
  have HK : Hid (us k = 0) := hk
  clear ek hk
  have c1 := h.c1
  have f1 := h.row.frozen 1
  have q40 : ∀ (w : World) (r : Option Nat), (binOp .eql 40 (.map r) (.map none)).run Try.prog w = .ok (.bool r.isNone) w := fun w r => run_eql_map_nil w _ _ _ r Try.underlying40
  go_enter_defers Try.func20, Try.ntmps20
  go_wp2_with (first
    | (go_at_call 25; refine (lock_free muLib ⟨J, 1, none⟩ _ c1 f1).mono ?_; rintro e w1 ⟨rfl, hw1⟩; have I1 : Inv 1 J (.map (some bm)) L rc us sz N w1 := hw1 ▸ h.setJ 1; have F1 : Frm J w w1 := hw1 ▸ (Frm.refl J w).setRow (Nat.le_refl _) h.row (.inl rfl) 1 _; clear hw1 c1 f1; have c3 := I1.c3; have hJs := I1.row.lt; have hlo := I1.look0 hs (EK.out ▸ HK.out); obtain ⟨D, MF⟩ := map_facts I1; have HM : Hid _ := MF; clear MF)
    | (at_mapUpdate; refine wpList_mapUpdate_own _ rfl _ _ _ 40 rfl 9 42 law9 Try.underlying40 _ bm N D rfl (HM.out.2.1.alloc _) hN _ _ _ rfl rfl hkey _ [] (ptrR_mk w1.heap.size) ?_; intro w3 hown3 hg3; have c6 : w3.cell? ⟨w1.heap.size, 6, none⟩ = some (.int .i64 0) := (rowIs_grown (lk_new w1) hg3 (Nat.ne_of_gt HM.out.2.1.lt)).cell (i := 6) (by omega); have f6 := (rowIs_grown (lk_new w1) hg3 (Nat.ne_of_gt HM.out.2.1.lt)).frozen 6))
  refine leaves_cons (f := 26) (args := #[.pointer (some ⟨J, 1, none⟩)]) (by simp) (by simp [go_sem]) ?_
  obtain ⟨hJ, hown, hsz, hz, hp⟩ := HM.out
  have I2 := I1.fresh HK.out hJ hown hsz hz hp hown3 hg3
  have F2 := ((F1.alloc (Nat.le_of_lt hJs) lkO).grown hg3 (Nat.le_of_lt hJ) (by simp; omega) (map_no_cells (hown.alloc _))).setRow (Nat.le_of_lt hJs) (rowIs_grown (lk_new w1) hg3 (Nat.ne_of_gt hown.lt)) (.inr rfl) 6 (.int .i64 1)
  refine (unlock_deferred muLib ⟨J, 1, none⟩ .returning _ I2.c1 (I2.row.frozen 1)).mono ?_
  rintro e u' w'' ⟨rfl, rfl, rfl⟩
  exact ⟨_, results_tmp rfl _ _ _, w1.heap.size, rfl, I2.setJ 0, F2.setRow (Nat.le_refl _) I2.row (.inl rfl) 1 _⟩

theorem lk_new2 (w : World) (a : Addr) (v : Value) : (((w.setCell a v).alloc (.map #[] 0)).alloc lkO).rowIs (w.heap.size + 1) 67 7 (lkF 0 0) := by
  have := lk_new ((w.setCell a v).alloc (.map #[] 0))
  have e : ((w.setCell a v).alloc (.map #[] 0)).heap.size = w.heap.size + 1 := by simp [World.setCell]
  rwa [e] at this

set_option maxRecDepth 100000 in
set_option maxHeartbeats 1600000 in
theorem use_nil (h : Inv 0 J (.map none) L rc us sz N w) (s : ByteArray) (hs : s.size ≤ maxLen) :
    Calls Try.prog 20 #[ptr J, .string s] w fun e w' => ∃ bm b, e = .returned (ptr b) ∧ Inv 0 J (.map (some bm)) (upd L s.data.toList b) rc (upd us s.data.toList 1) 1 1 w' ∧ us s.data.toList = 0 ∧ sz = 0 ∧ Frm J w w' := by
  obtain ⟨k, ek⟩ : ∃ k, k = s.data.toList := ⟨_, rfl⟩
  have hkey := keyOf_string_mk Try.underlying9 hs
  rw [← ek] at hkey ⊢
  clear ek
  have c1 := h.c1
  have f1 := h.row.frozen 1
  have HZ : Hid (sz = 0) := by
    rcases h.map with ⟨_, _, h0⟩ | ⟨bm, D, e, _⟩
    · exact h0
    · cases e
  have hmm := @run_makeMap Try.prog
  have hlo := fun w => look_nil (P := Try.prog) (w := w) false law9 Try.underlying40 (zero42 w) hkey
  have q40 : ∀ (w : World) (r : Option Nat), (binOp .eql 40 (.map r) (.map none)).run Try.prog w = .ok (.bool r.isNone) w := fun w r => run_eql_map_nil w _ _ _ r Try.underlying40
  go_enter_defers Try.func20, Try.ntmps20
  go_wp2_with (first
    | (go_at_call 25; refine (lock_free muLib ⟨J, 1, none⟩ _ c1 f1).mono ?_; rintro e w1 ⟨rfl, hw1⟩; have I1 : Inv 1 J (.map none) L rc us sz N w1 := hw1 ▸ h.setJ 1; have F1 : Frm J w w1 := hw1 ▸ (Frm.refl J w).setRow (Nat.le_refl _) h.row (.inl rfl) 1 _; clear hw1 c1 f1; have c3 := I1.c3; have f3 := I1.row.frozen 3; have hJs := I1.row.lt; have HM : Hid _ := I1.mkmap)
    | (at_mapUpdate; refine wpList_mapUpdate_own _ rfl _ _ _ 40 rfl 9 42 law9 Try.underlying40 _ w1.heap.size 0 (.map []) rfl (HM.out.2.2.alloc _) (by decide) _ _ _ rfl rfl hkey _ [] (ptrR_mk (w1.heap.size + 1)) ?_; intro w3 hown3 hg3; have RN : Hid (w3.rowIs (w1.heap.size + 1) 67 7 (lkF 0 0)) := rowIs_grown (lk_new2 w1 ⟨J, 3, none⟩ (.map (some w1.heap.size))) hg3 (by omega); have c6 : w3.cell? ⟨w1.heap.size + 1, 6, none⟩ = some (.int .i64 0) := RN.out.cell (i := 6) (by omega); have f6 := RN.out.frozen 6))
  refine leaves_cons (f := 26) (args := #[.pointer (some ⟨J, 1, none⟩)]) (by simp) (by simp [go_sem]) ?_
  obtain ⟨Im, hu, hown⟩ := HM.out
  have hsm : ((w1.setCell ⟨J, 3, none⟩ (.map (some w1.heap.size))).alloc (.map #[] 0)).heap.size = w1.heap.size + 1 := by simp [World.setCell]
  have hz : ∀ k, us k = 0 → Maps.has (DataW.map [] : DataW Unit) (.string k) = false := fun _ _ => rfl
  have hp : ∀ k, 0 < us k → Maps.has (DataW.map [] : DataW Unit) (.string k) = true ∧ (DataW.map [] : DataW Unit).atKey (.string k) .nil = .lit (.int .i64 (L k)) := fun k hk => absurd hk (by rw [hu k]; omega)
  have hown4 := hown3
  rw [← hsm] at hown4
  have I2 := Im.fresh (k := k) (hu k) hJs hown rfl hz hp hown4 hg3
  rw [hsm] at I2
  have F2 := (((F1.setRow (Nat.le_refl _) I1.row (.inl rfl) 3 (.map (some w1.heap.size))).alloc (by simp [World.setCell]; omega) (.map #[] 0)).alloc (by rw [hsm]; omega) lkO)
  have F3 := (F2.grown hg3 (Nat.le_of_lt hJs) (by rw [World.size_alloc, hsm]; omega) (map_no_cells (hown.alloc _))).setRow (Nat.le_of_lt (by omega)) RN.out (.inr rfl) 6 (.int .i64 1)
  refine (unlock_deferred muLib ⟨J, 1, none⟩ .returning _ I2.c1 (I2.row.frozen 1)).mono ?_
  rintro e u' w'' ⟨rfl, rfl, rfl⟩
  exact ⟨_, results_tmp rfl _ _ _, w1.heap.size, w1.heap.size + 1, rfl, I2.setJ 0, hu k, HZ.out, F3.setRow (Nat.le_refl _) I2.row (.inl rfl) 1 _⟩

theorem Inv.mono {st : Int} {nm : Value} (h : Inv st J nm L rc us sz N w) {N' : Nat} (hN : N ≤ N') : Inv st J nm L rc us sz N' w := by
  refine ⟨h.row, h.lks, h.inj, h.zero, ?_⟩
  rcases h.map with h0 | ⟨bm, D, e, hJ, hown, r⟩
  · exact .inl h0
  · exact .inr ⟨bm, D, e, hJ, hown.mono hN, r⟩

/-- the number of names, a name of u users taken -/
def bump (u sz : Nat) : Nat := if u = 0 then sz + 1 else sz
theorem bump_zero (sz : Nat) : bump 0 sz = sz + 1 := rfl
theorem bump_pos {u sz : Nat} (h : ¬ u = 0) : bump u sz = sz := if_neg h

theorem use_any {nm : Value} (h : Inv 0 J nm L rc us sz N w) (s : ByteArray) (hs : s.size ≤ maxLen) (hb : us s.data.toList ≤ 100000) (hN : N < maxLen) :
    Calls Try.prog 20 #[ptr J, .string s] w fun e w' => ∃ nm' L', e = .returned (ptr (L' s.data.toList)) ∧ Inv 0 J nm' L' rc (upd us s.data.toList (us s.data.toList + 1)) (bump (us s.data.toList) sz) (N + 1) w' ∧ Frm J w w' := by
  have hcase : nm = .map none ∨ ∃ bm, nm = .map (some bm) := by
    rcases h.map with ⟨e, _⟩ | ⟨bm, D, e, _⟩
    · exact .inl e
    · exact .inr ⟨bm, e⟩
  rcases hcase with rfl | ⟨bm, rfl⟩
  · refine (use_nil h s hs).mono ?_
    rintro e w' ⟨bm, b, rfl, I, h0, hz, F⟩
    rw [h0, bump_zero, hz]
    exact ⟨_, upd L s.data.toList b, by rw [upd_same], I.mono (by omega), F⟩
  · by_cases hk : us s.data.toList = 0
    · refine (use_new h s hs hk hN).mono ?_
      rintro e w' ⟨b, rfl, I, F⟩
      rw [hk, bump_zero]
      exact ⟨_, upd L s.data.toList b, by rw [upd_same], I, F⟩
    · refine (use_old h s hs (by omega) hb).mono ?_
      rintro e w' ⟨rfl, I, F⟩
      rw [bump_pos hk]
      exact ⟨_, L, rfl, I.mono (by omega), F⟩
end
end Go.Proofs.Qxb6605973a.Rlk

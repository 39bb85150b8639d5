import Derived.Test.Qxb6605973aRlock
namespace Go.Proofs.Qxb6605973a.Rlk
open Go.RowKit Go.WideMaps Go.Maps
open Go.MuLone
set_option linter.unusedVariables false

section
variable {J : Nat} {L rc us : Key → Nat} {sz N : Nat} {w : World}

theorem hold_any {nm : Value} (h : Inv 0 J nm L rc us sz N w) (s : ByteArray) (hs : s.size ≤ maxLen) (hb : us s.data.toList ≤ 100000) (hr : rc s.data.toList ≤ 100000) (hN : N < maxLen) :
    Calls Try.prog 12 #[ptr J, .string s] w fun e w' => e = .returned (.tuple #[]) ∧ (∃ nm' L', Inv 0 J nm' L' (upd rc s.data.toList (rc s.data.toList + 1)) (upd us s.data.toList (us s.data.toList + 1)) (bump (us s.data.toList) sz) (N + 1) w') ∧ Frm J w w' := by
  have U := rlock_any h s hs hb hr hN
  obtain ⟨k, ek⟩ : ∃ k, k = s.data.toList := ⟨_, rfl⟩
  rw [← ek] at U ⊢
  clear ek h hb hr hs hN
  go_enter Try.func12, Try.ntmps12
  go_wp2_with (go_at_call 19; refine U.mono ?_; rintro e w1 ⟨nm', L', bl, bj, bn, rfl, I1, F1, B1, B2, B3⟩; clear B1 B2 B3 U)
  go_end0
  exact ⟨rfl, ⟨nm', L', I1⟩, F1⟩

set_option maxRecDepth 100000 in
set_option maxHeartbeats 1600000 in
theorem rel_more {bm : Nat} (h : Inv 0 J (.map (some bm)) L rc us sz N w) (s : ByteArray) (hs : s.size ≤ maxLen) (hk : 2 ≤ us s.data.toList) (hb : us s.data.toList ≤ 200000) :
    Calls Try.prog 24 #[ptr J, .string s] w fun e w' => e = .returned (.tuple #[]) ∧ Inv 0 J (.map (some bm)) L rc (upd us s.data.toList (us s.data.toList - 1)) sz N w' ∧ Frm J w w' := by
  obtain ⟨k, ek⟩ : ∃ k, k = s.data.toList := ⟨_, rfl⟩
  rw [← ek] at hk hb ⊢
  have EK : Hid (k = s.data.toList) := ek
  clear ek
  have hk0 : 0 < us k := by omega
  have c1 := h.c1
  have f1 := h.row.frozen 1
  go_enter_defers Try.func24, Try.ntmps24
  go_wp2_with (first
    | (go_at_call 25; refine (lock_free muLib ⟨J, 1, none⟩ _ c1 f1).mono ?_; rintro e w1 ⟨rfl, hw1⟩; have I1 : Inv 1 J (.map (some bm)) L rc us sz N w1 := hw1 ▸ h.setJ 1; have F1 : Frm J w w1 := hw1 ▸ (Frm.refl J w).setRow (Nat.le_refl _) h.row (.inl rfl) 1 _; clear hw1 c1 f1; have c3 := I1.c3; have hlo := I1.look hs (EK.out ▸ hk0); rw [← EK.out] at hlo; have c6 := I1.c6 hk0; have f6 := (I1.lks k hk0).2.frozen 6))
  refine leaves_cons (f := 26) (args := #[.pointer (some ⟨J, 1, none⟩)]) (by simp) (by simp [go_sem]) ?_
  have e1 : ((us k - 1 : Nat) : Int) = (us k : Int) - 1 := by omega
  have I2 := I1.setUs hk0 (us k - 1) (by omega)
  have F2 := F1.setRow (Nat.le_of_lt (I1.lks k hk0).1) (I1.lks k hk0).2 (.inr rfl) 6 (.int .i64 ((us k - 1 : Nat) : Int))
  rw [e1] at I2 F2
  refine (unlock_deferred muLib ⟨J, 1, none⟩ .returning _ I2.c1 (I2.row.frozen 1)).mono ?_
  rintro e u' w'' ⟨rfl, rfl, rfl⟩
  exact ⟨_, results_none rfl _ _ _, rfl, I2.setJ 0, F2.setRow (Nat.le_refl _) I2.row (.inl rfl) 1 _⟩

set_option maxRecDepth 100000 in
set_option maxHeartbeats 1600000 in
theorem rel_last {bm : Nat} (h : Inv 0 J (.map (some bm)) L rc us sz N w) (s : ByteArray) (hs : s.size ≤ maxLen) (hk : us s.data.toList = 1) (hr : rc s.data.toList = 0) :
    Calls Try.prog 24 #[ptr J, .string s] w fun e w' => e = .returned (.tuple #[]) ∧ Inv 0 J (.map (some bm)) L rc (upd us s.data.toList 0) (sz - 1) N w' ∧ Frm J w w' := by
  obtain ⟨k, ek⟩ : ∃ k, k = s.data.toList := ⟨_, rfl⟩
  have hkey := keyOf_string_mk Try.underlying9 hs
  rw [← ek] at hk hr hkey ⊢
  have EK : Hid (k = s.data.toList) := ek
  have HK : Hid (us k = 1) := hk
  have HR : Hid (rc k = 0) := hr
  have hk0 : 0 < us k := by omega
  clear ek hk hr
  have c1 := h.c1
  have f1 := h.row.frozen 1
  go_enter_defers Try.func24, Try.ntmps24
  go_wp2_with (first
    | (go_at_call 25; refine (lock_free muLib ⟨J, 1, none⟩ _ c1 f1).mono ?_; rintro e w1 ⟨rfl, hw1⟩; have I1 : Inv 1 J (.map (some bm)) L rc us sz N w1 := hw1 ▸ h.setJ 1; have F1 : Frm J w w1 := hw1 ▸ (Frm.refl J w).setRow (Nat.le_refl _) h.row (.inl rfl) 1 _; clear hw1 c1 f1; have c3 := I1.c3; have hlo := I1.look hs (EK.out ▸ hk0); rw [← EK.out] at hlo; have c6 : w1.cell? ⟨L k, 6, none⟩ = some (.int .i64 1) := by { rw [I1.c6 hk0, HK.out]; rfl }; have f6 := (I1.lks k hk0).2.frozen 6; have hne : ¬ L k = J := I1.lk_ne hk0; have hne2 : ¬ J = L k := fun e => hne e.symm; obtain ⟨D, MF⟩ := map_facts I1; have HM : Hid _ := MF; clear MF)
    | (at_delete; refine wpList_delete_own _ rfl _ _ 40 9 rfl 42 law9 Try.underlying40 _ bm N D rfl (HM.out.2.1.setCell (a := ⟨L k, 6, none⟩) (map_ne_row HM.out.2.1 (I1.lks k hk0).2) _) _ _ rfl hkey ?_; intro w3 hown3 hturn))
  refine leaves_cons (f := 26) (args := #[.pointer (some ⟨J, 1, none⟩)]) (by simp) (by simp [go_sem]) ?_
  obtain ⟨hJ, hown, hsz, hz, hp⟩ := HM.out
  have I2 := I1.forget HK.out HR.out hJ hown hsz hz hp hown3 hturn.grown
  have F2 := (F1.setRow (Nat.le_of_lt (I1.lks k hk0).1) (I1.lks k hk0).2 (.inr rfl) 6 (.int .i64 0)).grown hturn.grown (Nat.le_of_lt hJ) (by have := I1.row.lt; simp [World.setCell]; omega) (map_no_cells (hown.setCell (a := ⟨L k, 6, none⟩) (map_ne_row hown (I1.lks k hk0).2) _))
  refine (unlock_deferred muLib ⟨J, 1, none⟩ .returning _ I2.c1 (I2.row.frozen 1)).mono ?_
  rintro e u' w'' ⟨rfl, rfl, rfl⟩
  exact ⟨_, results_none rfl _ _ _, rfl, I2.setJ 0, F2.setRow (Nat.le_refl _) I2.row (.inl rfl) 1 _⟩

theorem Inv.is_map {st : Int} {nm : Value} (h : Inv st J nm L rc us sz N w) {k : Key} (hk : 0 < us k) : ∃ bm, nm = .map (some bm) := by
  rcases h.map with ⟨_, h0, _⟩ | ⟨bm, D, e, _⟩
  · rw [h0 k] at hk; omega
  · exact ⟨bm, e⟩
/-- the number of names, a user of a name of u users gone -/
def drop1 (u sz : Nat) : Nat := if u = 1 then sz - 1 else sz
theorem rel_any {nm : Value} (h : Inv 0 J nm L rc us sz N w) (s : ByteArray) (hs : s.size ≤ maxLen) (hk : 0 < us s.data.toList) (hb : us s.data.toList ≤ 200000) (hr : us s.data.toList = 1 → rc s.data.toList = 0) :
    Calls Try.prog 24 #[ptr J, .string s] w fun e w' => e = .returned (.tuple #[]) ∧ Inv 0 J nm L rc (upd us s.data.toList (us s.data.toList - 1)) (drop1 (us s.data.toList) sz) N w' ∧ Frm J w w' := by
  obtain ⟨bm, rfl⟩ := h.is_map hk
  unfold drop1
  by_cases h1 : us s.data.toList = 1
  · refine (rel_last h s hs h1 (hr h1)).mono ?_
    rintro e w' ⟨he, I, F⟩
    rw [h1, if_pos rfl]
    exact ⟨he, I, F⟩
  · refine (rel_more h s hs (by omega) hb).mono ?_
    rintro e w' ⟨he, I, F⟩
    rw [if_neg h1]
    exact ⟨he, I, F⟩

set_option maxRecDepth 100000 in
set_option maxHeartbeats 1600000 in
theorem unlock_any {nm : Value} {bl bj bn : Nat} (h : Inv 0 J nm L rc us sz N w) (s : ByteArray) (hs : s.size ≤ maxLen) (hk : 0 < us s.data.toList) (hb : us s.data.toList ≤ 200000) (hr : rc s.data.toList ≤ 200000) (hr0 : 0 < rc s.data.toList)
    (hr1 : us s.data.toList = 1 → rc s.data.toList = 1) (B1 : Box w bl (ptr (L s.data.toList)) 42) (B2 : Box w bj (ptr J) 37) (B3 : Box w bn (.string s) 9) :
    Calls Try.prog 22 #[ptr bl, ptr bj, ptr bn] w fun e w' => e = .returned (.tuple #[]) ∧ Inv 0 J nm L (upd rc s.data.toList (rc s.data.toList - 1)) (upd us s.data.toList (us s.data.toList - 1)) (drop1 (us s.data.toList) sz) N w' ∧ Frm J w w' := by
  have c1 := B1.cell
  have R := (h.lks _ hk).2
  have e2 : wrap32 ((rc s.data.toList : Int) + -1) = ((rc s.data.toList - 1 : Nat) : Int) := by
    have e1 : (rc s.data.toList : Int) + -1 = ((rc s.data.toList - 1 : Nat) : Int) := by omega
    rw [e1]; exact wrap32_small (by omega)
  have RU := RwLone.runlock_held rwRLib (L s.data.toList) 0 (rc s.data.toList) (.int .i32 0) (.int .u32 0) w (R.cell (i := 0) (by omega)) (R.cell (i := 2) (by omega)) (R.cell (i := 4) (by omega)) (R.frozen 4) (by rw [e2]; omega)
  have I1 := h.setRc hk (rc s.data.toList - 1)
  have F1 := (Frm.refl J w).setRow (Nat.le_of_lt (h.lks _ hk).1) R (.inr rfl) 4 (.int .i32 ((rc s.data.toList - 1 : Nat) : Int))
  have c2 := (B2.frm F1 (by decide) (by decide)).cell
  have c3 := (B3.frm F1 (by decide) (by decide)).cell
  have RL := rel_any I1 s hs hk hb (fun e => by rw [upd_same, hr1 e])
  rw [e2] at RU
  obtain ⟨k, ek⟩ : ∃ k, k = s.data.toList := ⟨_, rfl⟩
  rw [← ek] at c1 c2 c3 RL RU F1 ⊢
  clear ek e2 R I1 h B1 B2 B3 hk hb hr hr0 hr1
  go_enter Try.func22, Try.ntmps22
  go_wp2_with (first
    | (go_at_call 23; refine RU.mono ?_; rintro e w1 ⟨rfl, hw⟩; have hw' : _ = w1 := hw.symm; rw [hw'] at c2 c3 RL F1; clear hw hw' RU)
    | (go_at_call 24; refine RL.mono ?_; rintro e w2 ⟨rfl, I2, F2⟩; clear RL))
  go_end0
  exact ⟨rfl, I2, F1.trans F2⟩

theorem upd_back (f : Key → Nat) (k : Key) (v : Nat) : upd (upd f k v) k (f k) = f := by
  funext k'
  by_cases e : k' = k
  · subst e; rw [upd_same]
  · rw [upd_other e, upd_other e]
theorem drop_bump (u sz : Nat) : drop1 (u + 1) (bump u sz) = sz := by
  unfold drop1 bump
  by_cases h : u = 0
  · subst h; simp
  · rw [if_neg (by omega), if_neg h]

set_option maxRecDepth 100000 in
set_option maxHeartbeats 1600000 in
theorem trip_any {nm : Value} (h : Inv 0 J nm L rc us sz N w) (s : ByteArray) (hs : s.size ≤ maxLen) (hb : us s.data.toList ≤ 100000) (hr : rc s.data.toList ≤ us s.data.toList) (hN : N < maxLen) :
    Calls Try.prog 17 #[ptr J, .string s] w fun e w' => e = .returned (.tuple #[]) ∧ (∃ nm' L', Inv 0 J nm' L' rc us sz (N + 1) w') ∧ Frm J w w' := by
  have U := rlock_any h s hs hb (by omega) hN
  have C : ∀ (nm' : Value) (L' : Key → Nat) (bl bj bn : Nat) (w1 : World), Inv 0 J nm' L' (upd rc s.data.toList (rc s.data.toList + 1)) (upd us s.data.toList (us s.data.toList + 1)) (bump (us s.data.toList) sz) (N + 1) w1 →
      Box w1 bl (ptr (L' s.data.toList)) 42 → Box w1 bj (ptr J) 37 → Box w1 bn (.string s) 9 →
      Calls Try.prog 22 #[ptr bl, ptr bj, ptr bn] w1 fun e w' => e = .returned (.tuple #[]) ∧ Inv 0 J nm' L' rc us sz (N + 1) w' ∧ Frm J w1 w' := by
    intro nm' L' bl bj bn w1 I1 B1 B2 B3
    have := unlock_any I1 s hs (by rw [upd_same]; omega) (by rw [upd_same]; omega) (by rw [upd_same]; omega) (by rw [upd_same]; omega) (by rw [upd_same, upd_same]; omega) B1 B2 B3
    rw [upd_same, upd_same, Nat.add_sub_cancel, Nat.add_sub_cancel, upd_back, upd_back, drop_bump] at this
    exact this
  obtain ⟨k, ek⟩ : ∃ k, k = s.data.toList := ⟨_, rfl⟩
  rw [← ek] at U C
  clear ek h hb hr hs hN
  go_enter Try.func17, Try.ntmps17
  go_wp2_with (first
    | (go_at_call 19; refine U.mono ?_; rintro e w1 ⟨nm', L', bl, bj, bn, rfl, I1, F1, B1, B2, B3⟩; have C1 := C nm' L' bl bj bn w1 I1 B1 B2 B3; clear C U I1 B1 B2 B3)
    | (go_at_call 22; refine C1.mono ?_; rintro e w2 ⟨rfl, I2, F2⟩; clear C1))
  go_end0
  exact ⟨rfl, ⟨nm', L', I2⟩, F1.trans F2⟩
end
end Go.Proofs.Qxb6605973a.Rlk

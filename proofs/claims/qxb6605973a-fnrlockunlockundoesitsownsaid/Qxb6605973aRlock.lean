import Derived.Test.Qxb6605973aUse
namespace Go.Proofs.Qxb6605973a.Rlk
open Go.RowKit Go.WideMaps Go.Maps
open Go.MuLone
set_option linter.unusedVariables false

/-- block b is a variable that holds v -/
def Box (w : World) (b : Nat) (v : Value) (t : TypeId) : Prop := w.heap[b]? = some (.cells #[v] t (0, 0))
theorem Box.cell {w : World} {b : Nat} {v : Value} {t : TypeId} (h : Box w b v t) : w.cell? ⟨b, 0, none⟩ = some v := by
  simp [World.cell?, show w.heap[b]? = _ from h]
theorem Box.frm {J : Nat} {w w' : World} {b : Nat} {v : Value} {t : TypeId} (h : Box w b v t) (F : Frm J w w') (h1 : t ≠ 59) (h2 : t ≠ 67) : Box w' b v t := F.keep b _ t _ h h1 h2
theorem Box.new (w : World) (v : Value) (t : TypeId) : Box (w.alloc (.cells #[v] t)) w.heap.size v t := heap_alloc_new w _
theorem Box.alloc {w : World} {b : Nat} {v : Value} {t : TypeId} (h : Box w b v t) (o : Obj) : Box (w.alloc o) b v t := by
  unfold Box
  rw [Below.heap_alloc _ _ _ (Array.getElem?_eq_some_iff.1 h).1]
  exact h

section
variable {J : Nat} {L rc us : Key → Nat} {sz N : Nat} {w : World}
theorem Inv.alloc {st : Int} {nm : Value} (h : Inv st J nm L rc us sz N w) (o : Obj) : Inv st J nm L rc us sz N (w.alloc o) := by
  refine ⟨h.row.alloc o, fun k hk => ⟨(h.lks k hk).1, (h.lks k hk).2.alloc o⟩, h.inj, h.zero, ?_⟩
  rcases h.map with h0 | ⟨bm, D, e, hJ, hown, r⟩
  · exact .inl h0
  · exact .inr ⟨bm, D, e, hJ, hown.alloc o, r⟩

theorem wrap32_small {n : Nat} (h : n ≤ 200000) : wrap32 (n : Int) = n := by
  unfold wrap32; omega

set_option maxRecDepth 100000 in
set_option maxHeartbeats 1600000 in
theorem rlock_any {nm : Value} (h : Inv 0 J nm L rc us sz N w) (s : ByteArray) (hs : s.size ≤ maxLen) (hb : us s.data.toList ≤ 100000) (hr : rc s.data.toList ≤ 100000) (hN : N < maxLen) :
    Calls Try.prog 19 #[ptr J, .string s] w fun e w' => ∃ nm' L' bl bj bn, e = .returned (.func (.func 22) #[] #[ptr bl, ptr bj, ptr bn]) ∧
      Inv 0 J nm' L' (upd rc s.data.toList (rc s.data.toList + 1)) (upd us s.data.toList (us s.data.toList + 1)) (bump (us s.data.toList) sz) (N + 1) w' ∧ Frm J w w' ∧
      Box w' bl (ptr (L' s.data.toList)) 42 ∧ Box w' bj (ptr J) 37 ∧ Box w' bn (.string s) 9 := by
  have hJs := h.row.lt
  have U := use_any ((h.alloc (.cells #[ptr J] 37)).alloc (.cells #[.string s] 9)) s hs hb hN
  obtain ⟨k, ek⟩ : ∃ k, k = s.data.toList := ⟨_, rfl⟩
  rw [← ek] at hb hr U ⊢
  clear ek
  go_enter Try.func19, Try.ntmps19
  go_wp2_with (first
    | (go_at_call 20; refine U.mono ?_; rintro e w1 ⟨nm', L', rfl, I1, F1⟩))
  have hk : 0 < upd us k (us k + 1) k := by rw [upd_same]; omega
  have I2 := I1.alloc (.cells #[ptr (L' k)] 42)
  have R2 := (I2.lks k hk).2
  have e1 : (rc k : Int) + 1 = ((rc k + 1 : Nat) : Int) := by omega
  have e2 : wrap32 ((rc k : Int) + 1) = ((rc k + 1 : Nat) : Int) := by rw [e1]; exact wrap32_small (by omega)
  refine (RwLone.rlock_open rwRLib (L' k) 0 (rc k) (.int .i32 0) (.int .u32 0) _ (R2.cell (i := 0) (by omega)) (R2.cell (i := 3) (by omega)) (R2.cell (i := 4) (by omega)) (R2.frozen 4) (by rw [e2]; omega)).mono ?_
  rintro e w' ⟨rfl, hw⟩
  have F2 : Frm J w (w1.alloc (.cells #[ptr (L' k)] 42)) := ((((Frm.refl J w).alloc (Nat.le_of_lt hJs) _).alloc (by simp; omega) _).trans F1).alloc (by have := I1.row.lt; omega) _
  have I3 := I2.setRc hk (rc k + 1)
  have F3 := F2.setRow (Nat.le_of_lt (I2.lks k hk).1) R2 (.inr rfl) 4 (.int .i32 ((rc k + 1 : Nat) : Int))
  have B1 : Box w1 w.heap.size (ptr J) 37 := ((Box.new w (ptr J) 37).alloc _).frm F1 (by decide) (by decide)
  have B2 : Box w1 (w.heap.size + 1) (.string s) 9 := by
    have := Box.new (w.alloc (.cells #[ptr J] 37)) (.string s) 9
    rw [World.size_alloc] at this
    exact this.frm F1 (by decide) (by decide)
  have FS := (Frm.refl J (w1.alloc (.cells #[ptr (L' k)] 42))).setRow (Nat.le_of_lt (I2.lks k hk).1) R2 (.inr rfl) 4 (.int .i32 ((rc k + 1 : Nat) : Int))
  have B3 := (Box.new w1 (ptr (L' k)) 42).frm FS (by decide) (by decide)
  have B4 := (B1.alloc (.cells #[ptr (L' k)] 42)).frm FS (by decide) (by decide)
  have B5 := (B2.alloc (.cells #[ptr (L' k)] 42)).frm FS (by decide) (by decide)
  rw [e2] at hw
  rw [← hw] at I3 F3 B3 B4 B5
  clear hw U e1 e2 R2 I2 I1 F1 F2 B1 B2 FS h
  go_wp2
  go_ret
  exact ⟨nm', L', w1.heap.size, w.heap.size, w.heap.size + 1, rfl, I3, F3, B3, B4, B5⟩
end
end Go.Proofs.Qxb6605973a.Rlk

import Derived.Test.Qxb6608562aTime
import Derived.Maps.OwnSet
namespace Go.Proofs.Qxb6608562a.Day
open Go.RowKit
set_option linter.unusedVariables false

/-- the cells of a DayFiles -/
abbrev dfO (ft : ByteArray) (fa : Option Addr) (len cap : Nat) (s d : Int) (rc : ByteArray) (m : Nat) : Obj :=
  .cells #[.string ft, .slice fa len cap, .int .u64 s, .int .i64 d, .pointer none, .string rc, .map (some m)] 44

theorem new_any (ft rc : ByteArray) (fa : Option Addr) (len cap : Nat) (s d : Int) (w : World) :
    Calls Try.prog 7 #[.string ft, .slice fa len cap, dayA s d, .string rc] w fun e w' => e = .returned (ptr (w.heap.size + 2)) ∧
      w' = ((w.alloc (dayO s d)).alloc (.map #[] 0)).alloc (dfO ft fa len cap s d rc (w.heap.size + 1)) := by
  have hmm := @run_makeMap Try.prog
  go_enter Try.func7, Try.ntmps7
  go_wp2
  go_ret
  exact ⟨rfl, rfl⟩

/-- a DayFiles at block b -/
structure Df (w : World) (b : Nat) (ft : ByteArray) (fa : Option Addr) (len cap : Nat) (s d : Int) (rc : ByteArray) (m : Nat) : Prop where
  c0 : w.cell? ⟨b, 0, none⟩ = some (.string ft)
  c1 : w.cell? ⟨b, 1, none⟩ = some (.slice fa len cap)
  c2 : w.cell? ⟨b, 2, none⟩ = some (.int .u64 s)
  c3 : w.cell? ⟨b, 3, none⟩ = some (.int .i64 d)
  c4 : w.cell? ⟨b, 4, none⟩ = some (.pointer none)
  c5 : w.cell? ⟨b, 5, none⟩ = some (.string rc)
  c6 : w.cell? ⟨b, 6, none⟩ = some (.map (some m))
theorem Df.keep {w w' : World} {b : Nat} {ft : ByteArray} {fa : Option Addr} {len cap : Nat} {s d : Int} {rc : ByteArray} {m : Nat} (h : Df w b ft fa len cap s d rc m) (hb : w'.heap[b]? = w.heap[b]?) : Df w' b ft fa len cap s d rc m := by
  have c : ∀ o, w'.cell? ⟨b, o, none⟩ = w.cell? ⟨b, o, none⟩ := fun o => World.cell?_of_block (a := ⟨b, o, none⟩) hb
  exact ⟨(c 0).trans h.c0, (c 1).trans h.c1, (c 2).trans h.c2, (c 3).trans h.c3, (c 4).trans h.c4, (c 5).trans h.c5, (c 6).trans h.c6⟩
theorem Df.lt {w : World} {b : Nat} {ft : ByteArray} {fa : Option Addr} {len cap : Nat} {s d : Int} {rc : ByteArray} {m : Nat} (h : Df w b ft fa len cap s d rc m) : b < w.heap.size := World.block_lt_of_cell? w _ h.c0
theorem Df.below {w w' : World} {b : Nat} {ft : ByteArray} {fa : Option Addr} {len cap : Nat} {s d : Int} {rc : ByteArray} {m : Nat} (h : Df w b ft fa len cap s d rc m) (hb : Below w.heap.size w w') : Df w' b ft fa len cap s d rc m := h.keep (hb.block b h.lt)

section
variable {w : World} {b : Nat} {ft : ByteArray} {fa : Option Addr} {len cap : Nat} {s d : Int} {rc : ByteArray} {m : Nat}
theorem fileType_any (h : Df w b ft fa len cap s d rc m) : Calls Try.prog 12 #[ptr b] w fun e w' => e = .returned (.string ft) ∧ w' = w := by
  have c := h.c0
  clear h
  go_enter Try.func12, Try.ntmps12
  go_wp2
  go_ret
  exact ⟨rfl, rfl⟩
theorem receiver_any (h : Df w b ft fa len cap s d rc m) : Calls Try.prog 13 #[ptr b] w fun e w' => e = .returned (.string rc) ∧ w' = w := by
  have c := h.c5
  clear h
  go_enter Try.func13, Try.ntmps13
  go_wp2
  go_ret
  exact ⟨rfl, rfl⟩
theorem dictionary_any (h : Df w b ft fa len cap s d rc m) : Calls Try.prog 15 #[ptr b] w fun e w' => e = .returned (.slice fa len cap) ∧ w' = w := by
  have c := h.c1
  clear h
  go_enter Try.func15, Try.ntmps15
  go_wp2
  go_ret
  exact ⟨rfl, rfl⟩
theorem senders_any (h : Df w b ft fa len cap s d rc m) : Calls Try.prog 10 #[ptr b] w fun e w' => e = .returned (.map (some m)) ∧ w' = w := by
  have c := h.c6
  clear h
  go_enter Try.func10, Try.ntmps10
  go_wp2
  go_ret
  exact ⟨rfl, rfl⟩
theorem day_any (h : Df w b ft fa len cap s d rc m) : Calls Try.prog 14 #[ptr b] w fun e w' => e = .returned (dayA s d) ∧ Below w.heap.size w w' := by
  have hb := h.lt
  have c2 : ∀ o, (w.alloc o).cell? ⟨b, 2, none⟩ = some (.int .u64 s) := fun o => by rw [World.cell?_alloc_past _ _ _ hb]; exact h.c2
  have c3 : ∀ o, (w.alloc o).cell? ⟨b, 3, none⟩ = some (.int .i64 d) := fun o => by rw [World.cell?_alloc_past _ _ _ hb]; exact h.c3
  have c4 : ∀ o, (w.alloc o).cell? ⟨b, 4, none⟩ = some (.pointer none) := fun o => by rw [World.cell?_alloc_past _ _ _ hb]; exact h.c4
  clear h
  go_enter Try.func14, Try.ntmps14
  go_wp2
  exact bodyPost_ret (v := dayA s d) (by simp [results, Try.results14, go_sem]) rfl ⟨rfl, (Below.refl _ _).alloc (Nat.le_refl _) _⟩
end
end Go.Proofs.Qxb6608562a.Day

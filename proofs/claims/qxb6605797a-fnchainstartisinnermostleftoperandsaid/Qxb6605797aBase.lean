import Derived.Test.Qxb6605797aRows
import Derived.WalkKit
import Derived.WalkLawsBesides
import Derived.Deep.OwnRows
namespace Go.Proofs.Qxb6605797a.Chn
open Go.RowKit
set_option linter.unusedVariables false

/-- a pointer to the head of block b -/
abbrev ptr (b : Nat) : Value := .pointer (some ⟨b, 0, none⟩)
/-- a *Concat in an interface -/
abbrev ico (b : Nat) : Value := .iface 25 (.pointer (some ⟨b, 0, none⟩))
/-- an *IntLit in an interface -/
abbrev ilit (b : Nat) : Value := .iface 42 (.pointer (some ⟨b, 0, none⟩))
abbrev litO (l c : Int) : Obj := .cells #[.int .i64 l, .int .i64 c, .int .i32 0] 44
abbrev conO (x y : Value) : Obj := .cells #[x, y] 48

theorem base_any (l c rl rc : Int) (w : World) :
    Calls Try.prog 10 #[.int .i64 l, .int .i64 c, .int .i64 rl, .int .i64 rc] w fun e w' => e = .returned (ptr (w.heap.size + 2)) ∧
      w' = ((w.alloc (litO l c)).alloc (litO rl rc)).alloc (conO (ilit w.heap.size) (ilit (w.heap.size + 1))) := by
  go_enter Try.func10, Try.ntmps10
  go_wp2
  go_ret
  exact ⟨rfl, rfl⟩
theorem wrapC_any (x y : Nat) (w : World) :
    Calls Try.prog 11 #[ptr x, ptr y] w fun e w' => e = .returned (ptr w.heap.size) ∧ w' = w.alloc (conO (ico x) (ico y)) := by
  go_enter Try.func11, Try.ntmps11
  go_wp2
  go_ret
  exact ⟨rfl, rfl⟩
theorem wrapL_any (x : Nat) (rl rc : Int) (w : World) :
    Calls Try.prog 12 #[ptr x, .int .i64 rl, .int .i64 rc] w fun e w' => e = .returned (ptr (w.heap.size + 1)) ∧ w' = (w.alloc (litO rl rc)).alloc (conO (ico x) (ilit w.heap.size)) := by
  go_enter Try.func12, Try.ntmps12
  go_wp2
  go_ret
  exact ⟨rfl, rfl⟩
theorem operands_any (b : Nat) (x y : Value) (w : World) (h0 : w.cell? ⟨b, 0, none⟩ = some x) (h1 : w.cell? ⟨b, 1, none⟩ = some y) :
    Calls Try.prog 32 #[ptr b] w fun e w' => e = .returned (.tuple #[x, y]) ∧ w' = w.drew := by
  go_enter Try.func32, Try.ntmps32
  go_wp2
  go_region
  all_goals (go_wp2; go_ret2; exact ⟨rfl, rfl⟩)
theorem litPos_any (b : Nat) (l c : Int) (w : World) (h0 : w.cell? ⟨b, 0, none⟩ = some (.int .i64 l)) (h1 : w.cell? ⟨b, 1, none⟩ = some (.int .i64 c)) :
    Calls Try.prog 34 #[ptr b] w fun e w' => e = .returned (.agg #[.int .i64 l, .int .i64 c]) ∧ w' = w.alloc (.cells #[.int .i64 l, .int .i64 c] 40) := by
  have hb : b < w.heap.size := World.block_lt_of_cell? w _ h0
  have k0 : ∀ o, (w.alloc o).cell? ⟨b, 0, none⟩ = some (.int .i64 l) := fun o => by rw [World.cell?_alloc_past _ _ _ hb]; exact h0
  have k1 : ∀ o, (w.alloc o).cell? ⟨b, 1, none⟩ = some (.int .i64 c) := fun o => by rw [World.cell?_alloc_past _ _ _ hb]; exact h1
  go_enter Try.func34, Try.ntmps34
  go_wp2
  exact bodyPost_ret (v := .agg #[.int .i64 l, .int .i64 c]) (by simp [results, Try.results34, go_sem]) rfl ⟨rfl, rfl⟩
end Go.Proofs.Qxb6605797a.Chn

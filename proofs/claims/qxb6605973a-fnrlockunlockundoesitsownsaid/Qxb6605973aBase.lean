import Derived.Test.Qxb6605973aLocks
import Derived.Conc.MuLone
import Derived.Maps.OwnSet
import Derived.WalkKit
import Derived.WalkSpells
import Derived.WalkLawsBesides
import Derived.Deep.OwnRows
namespace Go.Proofs.Qxb6605973a.Rlk
open Go.RowKit Go.Maps
set_option linter.unusedVariables false

abbrev ptr (b : Nat) : Value := .pointer (some ⟨b, 0, none⟩)
abbrev Key := List UInt8
theorem law9 : Keyed Try.prog 9 := string_keyed Try.underlying9
theorem zero42 (w : World) : (zeroValue 42).run Try.prog w = .ok (.pointer none) w := by kernel_rfl

theorem new_any (w : World) : Calls Try.prog 11 #[] w fun e w' => e = .returned (ptr w.heap.size) ∧ w' = w.alloc (.cells #[.pointer none, .int .i32 0, .int .u32 0, .map none, .map none] 59) := by
  go_enter Try.func11, Try.ntmps11
  go_wp2
  go_ret
  exact ⟨rfl, rfl⟩
theorem names_any (b : Nat) (v : Option Nat) (w : World) (h : w.cell? ⟨b, 3, none⟩ = some (.map v)) : Calls Try.prog 13 #[ptr b] w fun e w' => e = .returned (.map v) ∧ w' = w := by
  go_enter Try.func13, Try.ntmps13
  go_wp2
  go_ret
  exact ⟨rfl, rfl⟩
theorem users_any (b : Nat) (v : Int) (w : World) (h : w.cell? ⟨b, 6, none⟩ = some (.int .i64 v)) : Calls Try.prog 14 #[ptr b] w fun e w' => e = .returned (.int .i64 v) ∧ w' = w := by
  go_enter Try.func14, Try.ntmps14
  go_wp2
  go_ret
  exact ⟨rfl, rfl⟩

/-- how an element of the map of names reads: the number of the block that it leads to -/
def ptrR (v : Value) : Option (DataW Unit × List MemPlace) :=
  match v with
  | .pointer none => some (.nil, [])
  | .pointer (some a) => if a = ⟨a.block, 0, none⟩ then some (.lit (.int .i64 a.block), []) else none
  | _ => none
theorem ptrR_nil : ptrR (.pointer none) = some (.nil, []) := rfl
theorem ptrR_mk (b : Nat) : ptrR (ptr b) = some (.lit (.int .i64 b), []) := by simp [ptrR]
theorem ptrR_nil_inv {v : Value} {ps : List MemPlace} (h : ptrR v = some (.nil, ps)) : v = .pointer none := by
  unfold ptrR at h
  split at h
  · rfl
  · split at h <;> simp at h
  · cases h
theorem ptrR_ptr_inv {v : Value} {b : Nat} {ps : List MemPlace} (h : ptrR v = some (.lit (.int .i64 b), ps)) : v = ptr b := by
  unfold ptrR at h
  split at h
  · simp at h
  · rename_i a
    split at h
    · rename_i e
      simp at h
      have hb : a.block = b := by omega
      rw [e, hb]
    · cases h
  · cases h
end Go.Proofs.Qxb6605973a.Rlk

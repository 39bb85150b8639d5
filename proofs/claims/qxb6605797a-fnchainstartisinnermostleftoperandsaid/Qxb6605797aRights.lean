import Derived.Test.Qxb6605797aSpine
import Derived.Laws.CopyOwn
import Derived.WalkSpells
namespace Go.Proofs.Qxb6605797a.Chn
open Go.RowKit
set_option linter.unusedVariables false

theorem bytes5_any (ra : Option Addr) (len cap : Nat) (line col : Int) (w : World) (hm : len ≤ maxLen) :
    Calls Try.prog 5 #[.slice ra len cap, .int .i64 line, .int .i64 col] w fun e w' => (∃ b, e = .returned (.bool b)) ∧ w' = w := by
  unfold maxLen at hm
  go_enter Try.func5, Try.ntmps5
  go_wp2
  all_goals (go_ret; exact ⟨⟨_, rfl⟩, rfl⟩)
theorem bytes8_any (ra : Option Addr) (len cap : Nat) (line col : Int) (w : World) (hm : len ≤ maxLen) :
    Calls Try.prog 8 #[.slice ra len cap, .int .i64 line, .int .i64 col] w fun e w' => (∃ b, e = .returned (.bool b)) ∧ w' = w := by
  unfold maxLen at hm
  go_enter Try.func8, Try.ntmps8
  go_wp2
  all_goals (go_ret; exact ⟨⟨_, rfl⟩, rfl⟩)

theorem info4 : (Try.prog.info? 4).map (fun i => (i.zero, i.size, i.bytes)) = some (some (.bool false), 1, 1) := by kernel_rfl
theorem size4 : (Try.prog.info? 4).map (·.size) = some 1 := by kernel_rfl
def boolsL (z : Nat → Bool) (n : Nat) : List Value := (List.range n).map (fun i => .bool (z i))
theorem length_boolsL (z : Nat → Bool) (n : Nat) : (boolsL z n).length = n := by simp [boolsL]
theorem boolsL_get {z : Nat → Bool} {n j : Nat} {v : Value} (h : (boolsL z n)[j]? = some v) : j < n ∧ v = .bool (z j) := by
  unfold boolsL at h
  rw [List.getElem?_map] at h
  by_cases hj : j < n
  · rw [List.getElem?_range hj] at h
    exact ⟨hj, by simpa using h.symm⟩
  · rw [List.getElem?_eq_none (by simpa using hj)] at h
    cases h
theorem made_list (n : Nat) (w : World) : (w.alloc (.cells (madeCells #[.bool false] n) 4)).heap[w.heap.size]? = some (.cells (List.replicate n (Value.bool false)).toArray 4 (0, 0)) := by
  rw [heap_alloc_new]
  congr 2
  apply Array.toList_inj.1
  simp [toList_madeCells_one]
/-- the copy holds the bools -/
theorem copied {w : World} {g n : Nat} {z : Nat → Bool} (h : Hid (w.heap[g]? = some (.cells (splice (List.replicate n (Value.bool false)) 0 (boolsL z n)).toArray 4 (0, 0)))) :
    ∀ i, i < n → ∃ b o, some (⟨g, 0, none⟩ : Addr) = some ⟨b, o, none⟩ ∧ w.cell? ⟨b, o + i, none⟩ = some (.bool (z i)) := by
  intro i hi
  refine ⟨g, 0, rfl, ?_⟩
  have h' := h.out
  have e : splice (List.replicate n (Value.bool false)) 0 (boolsL z n) = boolsL z n := by
    unfold splice
    rw [length_boolsL]
    simp
  rw [e] at h'
  rw [Nat.zero_add, cell_of_row w g i _ 4 (0, 0) h']
  simp [boolsL, hi]
end Go.Proofs.Qxb6605797a.Chn

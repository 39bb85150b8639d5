import Derived.Test.Qxb6605797aBase
namespace Go.Proofs.Qxb6605797a.Chn
open Go.RowKit
set_option linter.unusedVariables false

theorem gdrew {w w' : World} {r : Option Nat} (h : w.grownBy w' r) : w.grownBy w'.drew r := ⟨h.os, h.tape, h.output, h.size, h.block⟩

/-- what cell i holds behind k exchanges -/
def revF (n k : Nat) (F : Nat → Nat) (f : Nat → Value) (i : Nat) : Value :=
  if i < n then (if i < k ∨ n - 1 - k < i then ico (F (n - 1 - i)) else ico (F i)) else f i

theorem revF_start (n : Nat) (F : Nat → Nat) (f : Nat → Value) (hF : ∀ i, i < n → f i = ico (F i)) (i : Nat) : f i = revF n 0 F f i := by
  unfold revF
  split
  · rw [if_neg (by omega), hF i (by assumption)]
  · rfl
theorem revF_step (n k j : Nat) (hkj : k + j + 1 = n) (hlt : k < j) (F : Nat → Nat) (f : Nat → Value) (i : Nat) :
    (if i = j then ico (F k) else if i = k then ico (F j) else revF n k F f i) = revF n (k + 1) F f i := by
  unfold revF
  by_cases e1 : i = j
  · subst e1
    rw [if_pos rfl, if_pos (by omega), if_pos (by omega)]
    congr; omega
  · rw [if_neg e1]
    by_cases e2 : i = k
    · subst e2
      rw [if_pos rfl, if_pos (by omega), if_pos (by omega)]
      congr; omega
    · rw [if_neg e2]
      by_cases hi : i < n
      · rw [if_pos hi, if_pos hi]
        by_cases h : i < k ∨ n - 1 - k < i
        · rw [if_pos h, if_pos (by omega)]
        · rw [if_neg h, if_neg (by omega)]
      · rw [if_neg hi, if_neg hi]
theorem revF_end (n k j : Nat) (hkj : k + j + 1 = n) (hge : ¬ k < j) (F : Nat → Nat) (f : Nat → Value) (i : Nat) :
    revF n k F f i = if i < n then ico (F (n - 1 - i)) else f i := by
  unfold revF
  by_cases hi : i < n
  · rw [if_pos hi, if_pos hi]
    by_cases h : i < k ∨ n - 1 - k < i
    · rw [if_pos h]
    · rw [if_neg h]
      congr; omega
  · rw [if_neg hi, if_neg hi]

/-- two exchanged cells: what has become of the world -/
theorem rev_world {w wr : World} {g N n k j : Nat} {F : Nat → Nat} {f : Nat → Value} (hkj : k + j + 1 = n) (hlt : k < j)
    (hrow : wr.rowIs g 38 N (revF n k F f)) (hg : w.grownBy wr (some g)) (hs : wr.heap.size = w.heap.size) :
    ((wr.setCell ⟨g, k, none⟩ (ico (F j))).setCell ⟨g, j, none⟩ (ico (F k))).rowIs g 38 N (revF n (k + 1) F f) ∧
    w.grownBy ((wr.setCell ⟨g, k, none⟩ (ico (F j))).setCell ⟨g, j, none⟩ (ico (F k))) (some g) ∧
    ((wr.setCell ⟨g, k, none⟩ (ico (F j))).setCell ⟨g, j, none⟩ (ico (F k))).heap.size = w.heap.size := by
  refine ⟨((hrow.set k _).set j _).congr (fun i _ => revF_step n k j hkj hlt F f i), ?_, by simpa [World.setCell] using hs⟩
  refine ⟨hg.os, hg.tape, hg.output, by simp [World.setCell, hs], fun q hq hne => ?_⟩
  rw [Below.heap_setCell _ _ _ _ (by simpa using hne), Below.heap_setCell _ _ _ _ (by simpa using hne)]
  exact hg.block q hq hne

theorem rev_any (g n cap N : Nat) (F : Nat → Nat) (f : Nat → Value) (w : World) (hrow : w.rowIs g 38 N f) (hF : ∀ i, i < n → f i = ico (F i)) (h1 : 1 ≤ n) (hN : n ≤ N) (hb : n ≤ 100000) :
    Calls Try.prog 15 #[.slice (some ⟨g, 0, none⟩) n cap] w fun e w' => e = .returned (.tuple #[]) ∧
      w'.rowIs g 38 N (fun i => if i < n then ico (F (n - 1 - i)) else f i) ∧ w.grownBy w' (some g) ∧ w'.heap.size = w.heap.size := by
  have hst : w.rowIs g 38 N (revF n 0 F f) := hrow.congr (fun i _ => revF_start n F f hF i)
  have hn0 : ((n : Int) - 1) = ((n - 1 : Nat) : Int) := by omega
  have HN : Hid (((n : Int) - 1) = ((n - 1 : Nat) : Int)) := hn0
  clear hn0 hrow hF
  go_enter Try.func15, Try.ntmps15
  go_wp2
  go_loopw [2, 3] (fun i j wr => ∃ k m : Nat, k + m + 1 = n ∧ i = .int .i64 k ∧ j = .int .i64 m ∧ wr.rowIs g 38 N (revF n k F f) ∧ w.grownBy wr (some g) ∧ wr.heap.size = w.heap.size)
    (fun i _ _ => n - (intOf i).toNat)
  case atStart => exact ⟨0, n - 1, by omega, rfl, by rw [HN.out], hst, World.grownBy.refl _ _, rfl⟩
  case round =>
    obtain ⟨k, m, hkm, rfl, rfl, hrow, hgr, hsz⟩ := hrel
    by_cases hlt : k < m
    · have ck : wr.cell? ⟨g, k, none⟩ = some (ico (F k)) := by
        rw [hrow.cell (by omega)]; unfold revF; rw [if_pos (by omega), if_neg (by omega)]
      have cm : wr.cell? ⟨g, m, none⟩ = some (ico (F m)) := by
        rw [hrow.cell (by omega)]; unfold revF; rw [if_pos (by omega), if_neg (by omega)]
      have fk := hrow.frozen k
      have fm := hrow.frozen m
      have HW : Hid (_ ∧ _ ∧ _) := rev_world hkm hlt hrow hgr hsz
      clear hrow hgr hsz hst
      have b1 : (k : Int) < n := by omega
      have b2 : (m : Int) < n := by omega
      go_wp2
      go_region
      all_goals
        go_wp2
        go_roundw
        case rel => exact ⟨k + 1, m - 1, by omega, by go_num, by go_num, HW.out.1, gdrew HW.out.2.1, HW.out.2.2⟩
        case measure => simp [intOf]; omega
    · go_wp2
      go_end0
      exact ⟨rfl, hrow.congr (fun i _ => revF_end n k m hkm hlt F f i), hgr, hsz⟩
end Go.Proofs.Qxb6605797a.Chn

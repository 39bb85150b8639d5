import Derived.Test.Qxb6608562aRec
namespace Go.Proofs.Qxb6608562a.Day
open Go.RowKit
set_option linter.unusedVariables false

def IsB (e : Ending) : Prop := ∃ b, e = .returned (.bool b)
/-- the dictionary that came in -/
def Dict (w : World) (ra : Option Addr) (len : Nat) (S : Nat → ByteArray) (T Wd Dc : Nat → Int) : Prop :=
  ∀ i, i < len → ∃ b o, ra = some ⟨b, o, none⟩ ∧ w.cell? ⟨b, o + i * 4, none⟩ = some (.string (S i)) ∧ w.cell? ⟨b, o + i * 4 + 1, none⟩ = some (.int .u8 (T i)) ∧
    w.cell? ⟨b, o + i * 4 + 2, none⟩ = some (.int .i64 (Wd i)) ∧ w.cell? ⟨b, o + i * 4 + 3, none⟩ = some (.int .i64 (Dc i))

section
variable {ra : Option Addr} {len cap : Nat} {S : Nat → ByteArray} {T Wd Dc : Nat → Int} {w : World}

theorem big_yes (hm : len ≤ maxLen) (hb : 16384 < (len : Int)) : Calls Try.prog 5 #[.slice ra len cap, .int .i64 524288] w fun e w' => e = .returned (.bool true) ∧ w' = w := by
  unfold maxLen at hm
  go_enter Try.func5, Try.ntmps5
  go_wp2
  go_ret
  exact ⟨rfl, rfl⟩
theorem big_any (hl : len ≤ 16384) (hS : ∀ i, i < len → (S i).size ≤ maxLen) (hr : Dict w ra len S T Wd Dc) : Calls Try.prog 5 #[.slice ra len cap, .int .i64 524288] w fun e w' => IsB e ∧ w' = w := by
  have HS : Hid (∀ i, i < len → (S i).size ≤ maxLen) := hS
  have HR : Hid (Dict w ra len S T Wd Dc) := hr
  have hbd : decide (16384 < (len : Int)) = false := by simp; omega
  clear hS hr
  go_enter Try.func5, Try.ntmps5
  go_wp2
  go_loop [5, 6] (fun z i => ∃ (k : Nat) (t : Int), k ≤ len ∧ i = .int .i64 k ∧ z = .int .i64 t ∧ 0 ≤ t ∧ t ≤ 524288) (fun _ i => len - (intOf i).toNat)
  case atStart => exact ⟨0, _, Nat.zero_le _, rfl, rfl, by omega, by omega⟩
  case round =>
    obtain ⟨k, t, hk, rfl, rfl, h0, h1⟩ := hrel
    by_cases hlt : k < len
    · obtain ⟨b, o, rfl, hc, _⟩ := HR.out k hlt
      have hsz := HS.out k hlt
      unfold maxLen at hsz
      have b1 : (k : Int) < len := by omega
      clear HS HR
      go_wp2
      · go_ret; exact ⟨⟨_, rfl⟩, rfl⟩
      · go_ret; exact ⟨⟨_, rfl⟩, rfl⟩
      · go_round
        case rel => exact ⟨k + 1, _, by omega, by go_num, rfl, by omega, by omega⟩
        case measure => simp [intOf]; omega
    · go_wp2
      go_ret; exact ⟨⟨_, rfl⟩, rfl⟩

set_option maxHeartbeats 800000 in
theorem bytes_any (a0 a3 a4 a5 : ByteArray) (n : Int) (w0 : a0.size ≤ maxLen) (w3 : a3.size ≤ maxLen) (w4 : a4.size ≤ maxLen) (w5 : a5.size ≤ maxLen) (hm : len ≤ maxLen) (hS : ∀ i, i < len → (S i).size ≤ maxLen) (hr : Dict w ra len S T Wd Dc) :
    Calls Try.prog 4 #[.string a0, .slice ra len cap, .int .i64 n, .string a3, .string a4, .string a5] w fun e w' => IsB e ∧ w' = w := by
  have HS : Hid (∀ i, i < len → (S i).size ≤ maxLen) := hS
  have HR : Hid (Dict w ra len S T Wd Dc) := hr
  clear hS hr
  unfold maxLen at w0 w3 w4 w5 hm
  by_cases hb0 : 1048576 < (a0.size : Int)
  · go_enter Try.func4, Try.ntmps4
    go_wp2
    go_ret; exact ⟨⟨_, rfl⟩, rfl⟩
  have hd0 : decide (1048576 < (a0.size : Int)) = false := by simpa using hb0
  by_cases hb1 : 1048576 < (len : Int)
  · go_enter Try.func4, Try.ntmps4
    go_wp2
    go_ret; exact ⟨⟨_, rfl⟩, rfl⟩
  have hd1 : decide (1048576 < (len : Int)) = false := by simpa using hb1
  by_cases hb2 : 1048576 < (a0.size : Int) + len
  · go_enter Try.func4, Try.ntmps4
    go_wp2
    go_ret; exact ⟨⟨_, rfl⟩, rfl⟩
  have hd2 : decide (1048576 < (a0.size : Int) + len) = false := by simpa using hb2
  go_enter Try.func4, Try.ntmps4
  go_wp2
  go_loop [13, 14] (fun z i => ∃ (k : Nat) (t : Int), k ≤ len ∧ i = .int .i64 k ∧ z = .int .i64 t ∧ 0 ≤ t ∧ t ≤ 1048576) (fun _ i => len - (intOf i).toNat)
  case atStart => exact ⟨0, _, Nat.zero_le _, rfl, rfl, by omega, by omega⟩
  case round =>
    obtain ⟨k, t, hk, rfl, rfl, h0, h1⟩ := hrel
    by_cases hlt : k < len
    · obtain ⟨b, o, rfl, hc, _⟩ := HR.out k hlt
      have hsz := HS.out k hlt
      unfold maxLen at hsz
      have b1 : (k : Int) < len := by omega
      clear HS HR
      go_wp2
      · go_ret; exact ⟨⟨_, rfl⟩, rfl⟩
      · go_ret; exact ⟨⟨_, rfl⟩, rfl⟩
      · go_round
        case rel => exact ⟨k + 1, _, by omega, by go_num, rfl, by omega, by omega⟩
        case measure => simp [intOf]; omega
    · go_wp2
      all_goals (go_ret; exact ⟨⟨_, rfl⟩, rfl⟩)

theorem info42 : (Try.prog.info? 42).map (fun i => (i.zero, i.size, i.bytes)) = some (some (.agg #[.string ByteArray.empty, .int .u8 0, .int .i64 0, .int .i64 0]), 4, 40) := by kernel_rfl
theorem make_fields (len : Nat) (hl : len ≤ 100000) (w : World) : (Instr.makeSlice 25 (.int .i64 len) (.int .i64 len)).run Try.prog w = .ok (.slice (some ⟨w.heap.size, 0, none⟩) len len) (w.alloc (.cells (madeCells #[.string ByteArray.empty, .int .u8 0, .int .i64 0, .int .i64 0] (len * 4)) 42)) := by
  obtain ⟨i0, hi, hz0, hz1, hz2⟩ := info_parts info42
  have hr := run_make (P := Try.prog) w 25 42 i0 (.agg #[.string ByteArray.empty, .int .u8 0, .int .i64 0, .int .i64 0]) Try.underlying25 hi hz0 .i64 .i64 len len (by omega) (by omega) (by rw [hz2]; omega) (by omega)
  rw [hz1] at hr
  simpa [Value.cells] using hr
/-- the cells of the fields, the first k filled -/
def fF (k : Nat) (S : Nat → ByteArray) (T Wd Dc : Nat → Int) (j : Nat) : Value :=
  if j % 4 = 0 then (if j / 4 < k then .string (S (j / 4)) else .string ByteArray.empty)
  else if j % 4 = 1 then (if j / 4 < k then .int .u8 (T (j / 4)) else .int .u8 0)
  else if j % 4 = 2 then (if j / 4 < k then .int .i64 (Wd (j / 4)) else .int .i64 0)
  else (if j / 4 < k then .int .i64 (Dc (j / 4)) else .int .i64 0)
theorem made_fields (w : World) (n : Nat) (S : Nat → ByteArray) (T Wd Dc : Nat → Int) : (w.alloc (.cells (madeCells #[.string ByteArray.empty, .int .u8 0, .int .i64 0, .int .i64 0] (n * 4)) 42)).rowIs w.heap.size 42 (n * 4) (fF 0 S T Wd Dc) :=
  ⟨_, heap_alloc_new _ _, size_madeCells _ _, fun i hi => by
    have h2 : i % 4 = 0 ∨ i % 4 = 1 ∨ i % 4 = 2 ∨ i % 4 = 3 := by omega
    rcases h2 with h | h | h | h <;> simp [madeCells, hi, fF, h]⟩
theorem fF_0 {k i : Nat} : fF k S T Wd Dc (i * 4) = if i < k then .string (S i) else .string ByteArray.empty := by
  unfold fF
  have e : i * 4 / 4 = i := by omega
  rw [if_pos (by omega), e]
theorem fF_1 {k i : Nat} : fF k S T Wd Dc (i * 4 + 1) = if i < k then .int .u8 (T i) else .int .u8 0 := by
  unfold fF
  have e : (i * 4 + 1) / 4 = i := by omega
  rw [if_neg (by omega), if_pos (by omega), e]
theorem fF_2 {k i : Nat} : fF k S T Wd Dc (i * 4 + 2) = if i < k then .int .i64 (Wd i) else .int .i64 0 := by
  unfold fF
  have e : (i * 4 + 2) / 4 = i := by omega
  rw [if_neg (by omega), if_neg (by omega), if_pos (by omega), e]
theorem fF_3 {k i : Nat} : fF k S T Wd Dc (i * 4 + 3) = if i < k then .int .i64 (Dc i) else .int .i64 0 := by
  unfold fF
  have e : (i * 4 + 3) / 4 = i := by omega
  rw [if_neg (by omega), if_neg (by omega), if_neg (by omega), e]
theorem fF_other {k j : Nat} (h : j ≠ k * 4 ∧ j ≠ k * 4 + 1 ∧ j ≠ k * 4 + 2 ∧ j ≠ k * 4 + 3) : fF (k + 1) S T Wd Dc j = fF k S T Wd Dc j := by
  unfold fF
  by_cases h1 : j / 4 < k
  · simp only [h1, if_true, show j / 4 < k + 1 by omega]
  · simp only [h1, if_false, show ¬ j / 4 < k + 1 by omega]
theorem f_step {wr : World} {g n k : Nat} (h : wr.rowIs g 42 n (fF k S T Wd Dc)) :
    ((((wr.setCell ⟨g, k * 4, none⟩ (.string (S k))).setCell ⟨g, k * 4 + 1, none⟩ (.int .u8 (T k))).setCell ⟨g, k * 4 + 2, none⟩ (.int .i64 (Wd k))).setCell ⟨g, k * 4 + 3, none⟩ (.int .i64 (Dc k))).rowIs g 42 n (fF (k + 1) S T Wd Dc) := by
  refine ((((h.set (k * 4) _).set (k * 4 + 1) _).set (k * 4 + 2) _).set (k * 4 + 3) _).congr fun i hi => ?_
  by_cases e3 : i = k * 4 + 3
  · subst e3; rw [if_pos rfl, fF_3, if_pos (by omega)]
  rw [if_neg e3]
  by_cases e2 : i = k * 4 + 2
  · subst e2; rw [if_pos rfl, fF_2, if_pos (by omega)]
  rw [if_neg e2]
  by_cases e1 : i = k * 4 + 1
  · subst e1; rw [if_pos rfl, fF_1, if_pos (by omega)]
  rw [if_neg e1]
  by_cases e0 : i = k * 4
  · subst e0; rw [if_pos rfl, fF_0, if_pos (by omega)]
  rw [if_neg e0, fF_other ⟨e0, e1, e2, e3⟩]

set_option maxHeartbeats 800000 in
theorem fields_any (hl : len ≤ 16384) (hr : Dict w ra len S T Wd Dc) :
    Calls Try.prog 6 #[.slice ra len cap] w fun e w' => e = .returned (.slice (some ⟨w.heap.size, 0, none⟩) len len) ∧ w'.rowIs w.heap.size 42 (len * 4) (fF len S T Wd Dc) ∧ Below w.heap.size w w' := by
  have hmk := make_fields len (by omega)
  have HR : Hid (Dict w ra len S T Wd Dc) := hr
  clear hr
  go_enter Try.func6, Try.ntmps6
  go_wp2
  go_loopw [4] (fun i wr => ∃ k : Nat, k ≤ len ∧ i = .int .i64 k ∧ wr.rowIs w.heap.size 42 (len * 4) (fF k S T Wd Dc) ∧ Below w.heap.size w wr)
    (fun i _ => len - (intOf i).toNat)
  case atStart => exact ⟨0, Nat.zero_le _, rfl, made_fields w len S T Wd Dc, (Below.refl _ _).alloc (Nat.le_refl _) _⟩
  case round =>
    obtain ⟨k, hk, rfl, hout, hb1⟩ := hrel
    by_cases hlt : k < len
    · obtain ⟨b, o, rfl, hc0, hc1, hc2, hc3⟩ := HR.out k hlt
      have hbz := World.block_lt_of_cell? w _ hc0
      have k0 := (hb1.cell (p := ⟨b, o + k * 4, none⟩) hbz).trans hc0
      have k1 := (hb1.cell (p := ⟨b, o + k * 4 + 1, none⟩) hbz).trans hc1
      have k2 := (hb1.cell (p := ⟨b, o + k * 4 + 2, none⟩) hbz).trans hc2
      have k3 := (hb1.cell (p := ⟨b, o + k * 4 + 3, none⟩) hbz).trans hc3
      have q0 : wr.cell? ⟨w.heap.size, k * 4, none⟩ = some (.string ByteArray.empty) := by rw [hout.cell (by omega), fF_0, if_neg (by omega)]
      have q1 : wr.cell? ⟨w.heap.size, k * 4 + 1, none⟩ = some (.int .u8 0) := by rw [hout.cell (by omega), fF_1, if_neg (by omega)]
      have q2 : wr.cell? ⟨w.heap.size, k * 4 + 2, none⟩ = some (.int .i64 0) := by rw [hout.cell (by omega), fF_2, if_neg (by omega)]
      have q3 : wr.cell? ⟨w.heap.size, k * 4 + 3, none⟩ = some (.int .i64 0) := by rw [hout.cell (by omega), fF_3, if_neg (by omega)]
      have g0 := hout.frozen (k * 4)
      have g1 := hout.frozen (k * 4 + 1)
      have g2 := hout.frozen (k * 4 + 2)
      have g3 := hout.frozen (k * 4 + 3)
      have HO : Hid _ := f_step hout
      have HB : Hid _ := (((hb1.setCell (p := ⟨w.heap.size, k * 4, none⟩) (Nat.le_refl _) (.string (S k))).setCell (p := ⟨w.heap.size, k * 4 + 1, none⟩) (Nat.le_refl _) (.int .u8 (T k))).setCell (p := ⟨w.heap.size, k * 4 + 2, none⟩) (Nat.le_refl _) (.int .i64 (Wd k))).setCell (p := ⟨w.heap.size, k * 4 + 3, none⟩) (Nat.le_refl _) (.int .i64 (Dc k))
      have b1 : (k : Int) < len := by omega
      clear hout hb1 hc0 hc1 hc2 hc3 HR hmk
      go_wp2
      go_region
      all_goals
        go_wp2
        go_roundw
        case rel => exact ⟨k + 1, by omega, by go_num, HO.out, HB.out.drew⟩
        case measure => simp [intOf]; omega
    · obtain rfl : k = len := by omega
      go_wp2
      go_ret
      exact ⟨rfl, hout, hb1⟩
end
end Go.Proofs.Qxb6608562a.Day

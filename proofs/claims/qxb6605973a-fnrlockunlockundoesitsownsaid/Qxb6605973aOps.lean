import Derived.Test.Qxb6605973aLawA
namespace Go.Proofs.Qxb6605973a.Rlk
open Go.RowKit Go.WideMaps Go.Maps
set_option linter.unusedVariables false

/-- the slice's first len elements are the pairs of S and T -/
def Opss (w : World) (ra : Option Addr) (len : Nat) (S : Nat → ByteArray) (T : Nat → Bool) : Prop :=
  ∀ i, i < len → ∃ b o, ra = some ⟨b, o, none⟩ ∧ w.cell? ⟨b, o + i * 2, none⟩ = some (.string (S i)) ∧ w.cell? ⟨b, o + i * 2 + 1, none⟩ = some (.bool (T i))

theorem bytes15_any (ra : Option Addr) (len cap : Nat) (S : Nat → ByteArray) (T : Nat → Bool) (w : World) (hm : len ≤ maxLen) (hS : ∀ i, i < len → (S i).size ≤ maxLen) (hr : Opss w ra len S T) :
    Calls Try.prog 15 #[.slice ra len cap] w fun e w' => IsB e ∧ w' = w := by
  unfold maxLen at hm
  have HS : Hid (∀ i, i < len → (S i).size ≤ maxLen) := hS
  have HR : Hid (Opss w ra len S T) := hr
  clear hS hr
  by_cases hbig : 1048576 < (len : Int)
  · go_enter Try.func15, Try.ntmps15
    go_wp2
    go_ret; exact ⟨⟨_, rfl⟩, rfl⟩
  · have hbd : decide (1048576 < (len : Int)) = false := by simpa using hbig
    go_enter Try.func15, Try.ntmps15
    go_wp2
    go_loop [3, 4] (fun z i => ∃ (k : Nat) (t : Int), k ≤ len ∧ i = .int .i64 k ∧ z = .int .i64 t ∧ 0 ≤ t ∧ t ≤ 1048576) (fun _ i => len - (intOf i).toNat)
    case atStart => exact ⟨0, _, Nat.zero_le _, rfl, rfl, by omega, by omega⟩
    case round =>
      obtain ⟨k, t, hk, rfl, rfl, h0, h1⟩ := hrel
      by_cases hlt : k < len
      · obtain ⟨b, o, rfl, hc, _⟩ := HR.out k hlt
        have hsz := HS.out k hlt
        unfold maxLen at hsz
        have b1 : (k : Int) < len := by omega
        clear HS HR
        go_wp2
        · go_ret; exact ⟨⟨_, rfl⟩, rfl⟩
        · go_ret; exact ⟨⟨_, rfl⟩, rfl⟩
        · go_round
          case rel => exact ⟨k + 1, _, by omega, by go_num, rfl, by omega, by omega⟩
          case measure => simp [intOf]; omega
      · go_wp2
        go_ret; exact ⟨⟨_, rfl⟩, rfl⟩

theorem info47 : (Try.prog.info? 47).map (fun i => (i.zero, i.size, i.bytes)) = some (some (.agg #[.string ByteArray.empty, .bool false]), 2, 24) := by kernel_rfl
theorem make_ops (len : Nat) (hl : len ≤ 100000) (w : World) : (Instr.makeSlice 44 (.int .i64 len) (.int .i64 len)).run Try.prog w = .ok (.slice (some ⟨w.heap.size, 0, none⟩) len len) (w.alloc (.cells (madeCells #[.string ByteArray.empty, .bool false] (len * 2)) 47)) := by
  obtain ⟨i0, hi, hz0, hz1, hz2⟩ := info_parts info47
  have hr := run_make (P := Try.prog) w 44 47 i0 (.agg #[.string ByteArray.empty, .bool false]) Try.underlying44 hi hz0 .i64 .i64 len len (by omega) (by omega) (by rw [hz2]; omega) (by omega)
  rw [hz1] at hr
  simpa [Value.cells] using hr
/-- the cells of k copied pairs -/
def opF (k : Nat) (S : Nat → ByteArray) (T : Nat → Bool) (j : Nat) : Value :=
  if j % 2 = 0 then (if j / 2 < k then .string (S (j / 2)) else .string ByteArray.empty) else (if j / 2 < k then .bool (T (j / 2)) else .bool false)
theorem made_ops (w : World) (n : Nat) (S : Nat → ByteArray) (T : Nat → Bool) : (w.alloc (.cells (madeCells #[.string ByteArray.empty, .bool false] (n * 2)) 47)).rowIs w.heap.size 47 (n * 2) (opF 0 S T) :=
  ⟨_, heap_alloc_new _ _, size_madeCells _ _, fun i hi => by
    have h2 : i % 2 = 0 ∨ i % 2 = 1 := by omega
    rcases h2 with h | h <;> simp [madeCells, hi, opF, h]⟩
theorem op_step {wr : World} {g n k : Nat} {S : Nat → ByteArray} {T : Nat → Bool} (h : wr.rowIs g 47 n (opF k S T)) :
    ((wr.setCell ⟨g, k * 2, none⟩ (.string (S k))).setCell ⟨g, k * 2 + 1, none⟩ (.bool (T k))).rowIs g 47 n (opF (k + 1) S T) := by
  refine ((h.set (k * 2) _).set (k * 2 + 1) _).congr fun i hi => ?_
  unfold opF
  by_cases e1 : i = k * 2 + 1
  · subst e1
    rw [if_pos rfl, if_neg (by omega), if_pos (by omega)]
    congr; omega
  · rw [if_neg e1]
    by_cases e2 : i = k * 2
    · subst e2
      rw [if_pos rfl, if_pos (by omega), if_pos (by omega)]
      congr; omega
    · rw [if_neg e2]
      by_cases h1 : i / 2 < k
      · simp only [h1, if_true, show i / 2 < k + 1 by omega]
      · simp only [h1, if_false, show ¬ i / 2 < k + 1 by omega]
theorem opF_fst {k i : Nat} {S : Nat → ByteArray} {T : Nat → Bool} (h : i < k) : opF k S T (i * 2) = .string (S i) := by
  unfold opF
  rw [if_pos (by omega), if_pos (by omega)]
  congr; omega
theorem opF_snd {k i : Nat} {S : Nat → ByteArray} {T : Nat → Bool} (h : i < k) : opF k S T (i * 2 + 1) = .bool (T i) := by
  unfold opF
  rw [if_neg (by omega), if_pos (by omega)]
  congr; omega

def CopiedO (w w' : World) (ra : Option Addr) (len : Nat) (S : Nat → ByteArray) (T : Nat → Bool) : Prop :=
  (∀ i, i < len → ∃ b, ra = some ⟨b, 0, none⟩ ∧ w'.cell? ⟨b, i * 2, none⟩ = some (.string (S i)) ∧ w'.cell? ⟨b, i * 2 + 1, none⟩ = some (.bool (T i))) ∧ Below w.heap.size w w'

theorem cloneO_some (x : Addr) (len cap : Nat) (S : Nat → ByteArray) (T : Nat → Bool) (w : World) (hl : len ≤ 100000) (hr : Opss w (some x) len S T) :
    Calls Try.prog 16 #[.slice (some x) len cap] w fun e w' => ∃ ra cap', e = .returned (.slice ra len cap') ∧ CopiedO w w' ra len S T := by
  have hmk := make_ops len hl
  have heq := fun w => Lib.run_eql_slice_nil (P := Try.prog) w 44 47 (some x) len cap 0 0 Try.underlying44
  have HR : Hid (Opss w (some x) len S T) := hr
  clear hr
  go_enter Try.func16, Try.ntmps16
  go_wp2
  go_loopw [4] (fun i wr => ∃ k : Nat, k ≤ len ∧ i = .int .i64 k ∧ wr.rowIs w.heap.size 47 (len * 2) (opF k S T) ∧ Below w.heap.size w wr)
    (fun i _ => len - (intOf i).toNat)
  case atStart => exact ⟨0, Nat.zero_le _, rfl, made_ops w len S T, (Below.refl _ _).alloc (Nat.le_refl _) _⟩
  case round =>
    obtain ⟨k, hk, rfl, hout, hb1⟩ := hrel
    by_cases hlt : k < len
    · obtain ⟨b, o, hx, hc, hd⟩ := HR.out k hlt
      cases hx
      have hbz := World.block_lt_of_cell? w _ hc
      have ck : wr.cell? ⟨b, o + k * 2, none⟩ = some (.string (S k)) := (hb1.cell (p := ⟨b, o + k * 2, none⟩) hbz).trans hc
      have dk : wr.cell? ⟨b, o + k * 2 + 1, none⟩ = some (.bool (T k)) := (hb1.cell (p := ⟨b, o + k * 2 + 1, none⟩) hbz).trans hd
      have co : wr.cell? ⟨w.heap.size, k * 2, none⟩ = some (.string ByteArray.empty) := by
        rw [hout.cell (by omega)]; unfold opF; rw [if_pos (by omega), if_neg (by omega)]
      have do1 : wr.cell? ⟨w.heap.size, k * 2 + 1, none⟩ = some (.bool false) := by
        rw [hout.cell (by omega)]; unfold opF; rw [if_neg (by omega), if_neg (by omega)]
      have fo := hout.frozen (k * 2)
      have fo1 := hout.frozen (k * 2 + 1)
      have HO : Hid _ := op_step hout
      have HB : Hid _ := (hb1.setCell (p := ⟨w.heap.size, k * 2, none⟩) (Nat.le_refl _) (.string (S k))).setCell (p := ⟨w.heap.size, k * 2 + 1, none⟩) (Nat.le_refl _) (.bool (T k))
      have b1 : (k : Int) < len := by omega
      clear hout hb1 hc hd HR
      go_wp2
      go_roundw
      case rel => exact ⟨k + 1, by omega, by go_num, HO.out, HB.out⟩
      case measure => simp [intOf]; omega
    · obtain rfl : k = len := by omega
      go_wp2
      go_ret
      exact ⟨_, _, rfl, fun i hi => ⟨w.heap.size, rfl, by rw [hout.cell (by omega), opF_fst hi], by rw [hout.cell (by omega), opF_snd hi]⟩, hb1⟩
theorem cloneO_none (len cap : Nat) (S : Nat → ByteArray) (T : Nat → Bool) (w : World) (h0 : len = 0) :
    Calls Try.prog 16 #[.slice none len cap] w fun e w' => ∃ ra cap', e = .returned (.slice ra len cap') ∧ CopiedO w w' ra len S T := by
  subst h0
  have heq := fun w => Lib.run_eql_slice_nil (P := Try.prog) w 44 47 none 0 cap 0 0 Try.underlying44
  go_enter Try.func16, Try.ntmps16
  go_wp2
  go_ret
  exact ⟨_, _, rfl, fun i hi => absurd hi (by omega), Below.refl _ _⟩
theorem cloneO_any (ra : Option Addr) (len cap : Nat) (S : Nat → ByteArray) (T : Nat → Bool) (w : World) (hl : len ≤ 100000) (hn : ra = none → len = 0) (hr : Opss w ra len S T) :
    Calls Try.prog 16 #[.slice ra len cap] w fun e w' => ∃ ra' cap', e = .returned (.slice ra' len cap') ∧ CopiedO w w' ra' len S T := by
  cases ra with
  | none => exact cloneO_none len cap S T w (hn rfl)
  | some x => exact cloneO_some x len cap S T w hl hr
end Go.Proofs.Qxb6605973a.Rlk

import Derived.Test.Qxb6605973aRel
namespace Go.Proofs.Qxb6605973a.Rlk
open Go.RowKit Go.WideMaps Go.Maps
set_option linter.unusedVariables false

/-- some bool came back -/
def IsB (e : Ending) : Prop := ∃ b, e = .returned (.bool b)
/-- the slice's first len cells hold the strings S -/
def Strs (w : World) (ra : Option Addr) (len : Nat) (S : Nat → ByteArray) : Prop :=
  ∀ i, i < len → ∃ b o, ra = some ⟨b, o, none⟩ ∧ w.cell? ⟨b, o + i, none⟩ = some (.string (S i))

theorem bytes9_any (ra : Option Addr) (len cap : Nat) (S : Nat → ByteArray) (w : World) (hm : len ≤ maxLen) (hS : ∀ i, i < len → (S i).size ≤ maxLen) (hr : Strs w ra len S) :
    Calls Try.prog 9 #[.slice ra len cap] w fun e w' => IsB e ∧ w' = w := by
  unfold maxLen at hm
  have HS : Hid (∀ i, i < len → (S i).size ≤ maxLen) := hS
  have HR : Hid (Strs w ra len S) := hr
  clear hS hr
  by_cases hbig : 1048576 < (len : Int)
  · go_enter Try.func9, Try.ntmps9
    go_wp2
    go_ret; exact ⟨⟨_, rfl⟩, rfl⟩
  · have hbd : decide (1048576 < (len : Int)) = false := by simpa using hbig
    go_enter Try.func9, Try.ntmps9
    go_wp2
    go_loop [3, 4] (fun z i => ∃ (k : Nat) (t : Int), k ≤ len ∧ i = .int .i64 k ∧ z = .int .i64 t ∧ 0 ≤ t ∧ t ≤ 1048576) (fun _ i => len - (intOf i).toNat)
    case atStart => exact ⟨0, _, Nat.zero_le _, rfl, rfl, by omega, by omega⟩
    case round =>
      obtain ⟨k, t, hk, rfl, rfl, h0, h1⟩ := hrel
      by_cases hlt : k < len
      · obtain ⟨b, o, rfl, hc⟩ := HR.out k hlt
        have hsz := HS.out k hlt
        unfold maxLen at hsz
        have b1 : (k : Int) < len := by omega
        clear HS HR
        go_wp2
        · go_ret; exact ⟨⟨_, rfl⟩, rfl⟩
        · go_ret; exact ⟨⟨_, rfl⟩, rfl⟩
        · go_round
          case rel => exact ⟨k + 1, _, by omega, by go_num, rfl, by omega, by omega⟩
          case measure => simp [intOf]; omega
      · go_wp2
        go_ret; exact ⟨⟨_, rfl⟩, rfl⟩

theorem info9 : (Try.prog.info? 9).map (fun i => (i.zero, i.size, i.bytes)) = some (some (.string ByteArray.empty), 1, 16) := by kernel_rfl

theorem str_step {wr : World} {g n k : Nat} {S : Nat → ByteArray} (h : wr.rowIs g 9 n (fun j => if j < k then .string (S j) else .string ByteArray.empty)) :
    (wr.setCell ⟨g, k, none⟩ (.string (S k))).rowIs g 9 n (fun j => if j < k + 1 then .string (S j) else .string ByteArray.empty) := by
  refine (h.set k _).congr fun i hi => ?_
  by_cases e : i = k
  · subst e; rw [if_pos rfl, if_pos (by omega)]
  · rw [if_neg e]
    by_cases h1 : i < k
    · rw [if_pos h1, if_pos (by omega)]
    · rw [if_neg h1, if_neg (by omega)]

/-- the copy: its cells lie below the heap's end -/
def Copied (w w' : World) (ra : Option Addr) (len : Nat) (S : Nat → ByteArray) : Prop :=
  (∀ i, i < len → ∃ b, ra = some ⟨b, 0, none⟩ ∧ w'.cell? ⟨b, i, none⟩ = some (.string (S i))) ∧ Below w.heap.size w w'

theorem clone_some (x : Addr) (len cap : Nat) (S : Nat → ByteArray) (w : World) (hl : len ≤ 100000) (hr : Strs w (some x) len S) :
    Calls Try.prog 10 #[.slice (some x) len cap] w fun e w' => ∃ ra cap', e = .returned (.slice ra len cap') ∧ Copied w w' ra len S := by
  have hmk := run_make_row' (P := Try.prog) 34 9 (.string ByteArray.empty) 16 Try.underlying34 info9 rfl .i64 .i64 len (by omega) (by omega)
  have heq := fun w => Lib.run_eql_slice_nil (P := Try.prog) w 34 9 (some x) len cap 0 0 Try.underlying34
  have HR : Hid (Strs w (some x) len S) := hr
  clear hr
  go_enter Try.func10, Try.ntmps10
  go_wp2
  go_loopw [4] (fun i wr => ∃ k : Nat, k ≤ len ∧ i = .int .i64 k ∧ wr.rowIs w.heap.size 9 len (fun j => if j < k then .string (S j) else .string ByteArray.empty) ∧ Below w.heap.size w wr)
    (fun i _ => len - (intOf i).toNat)
  case atStart => exact ⟨0, Nat.zero_le _, rfl, (World.rowIs_made w (.string ByteArray.empty) len 9).congr (fun i _ => by rw [if_neg (by omega)]), (Below.refl _ _).alloc (Nat.le_refl _) _⟩
  case round =>
    obtain ⟨k, hk, rfl, hout, hb1⟩ := hrel
    by_cases hlt : k < len
    · obtain ⟨b, o, hx, hc⟩ := HR.out k hlt
      cases hx
      have ck : wr.cell? ⟨b, o + k, none⟩ = some (.string (S k)) := (hb1.cell (p := ⟨b, o + k, none⟩) (World.block_lt_of_cell? w _ hc)).trans hc
      have co := hout.cell hlt
      rw [if_neg (by omega)] at co
      have fo := hout.frozen k
      have HO : Hid _ := str_step hout
      have HB : Hid _ := hb1.setCell (p := ⟨w.heap.size, k, none⟩) (Nat.le_refl _) (.string (S k))
      have b1 : (k : Int) < len := by omega
      clear hout hb1 hc HR
      go_wp2
      go_roundw
      case rel => exact ⟨k + 1, by omega, by go_num, HO.out, HB.out⟩
      case measure => simp [intOf]; omega
    · obtain rfl : k = len := by omega
      go_wp2
      go_ret
      exact ⟨_, _, rfl, fun i hi => ⟨w.heap.size, rfl, by rw [hout.cell hi, if_pos hi]⟩, hb1⟩
theorem clone_none (len cap : Nat) (S : Nat → ByteArray) (w : World) (h0 : len = 0) :
    Calls Try.prog 10 #[.slice none len cap] w fun e w' => ∃ ra cap', e = .returned (.slice ra len cap') ∧ Copied w w' ra len S := by
  subst h0
  have heq := fun w => Lib.run_eql_slice_nil (P := Try.prog) w 34 9 none 0 cap 0 0 Try.underlying34
  go_enter Try.func10, Try.ntmps10
  go_wp2
  go_ret
  exact ⟨_, _, rfl, fun i hi => absurd hi (by omega), Below.refl _ _⟩
theorem clone_any (ra : Option Addr) (len cap : Nat) (S : Nat → ByteArray) (w : World) (hl : len ≤ 100000) (hn : ra = none → len = 0) (hr : Strs w ra len S) :
    Calls Try.prog 10 #[.slice ra len cap] w fun e w' => ∃ ra' cap', e = .returned (.slice ra' len cap') ∧ Copied w w' ra' len S := by
  cases ra with
  | none => exact clone_none len cap S w (hn rfl)
  | some x => exact clone_some x len cap S w hl hr
end Go.Proofs.Qxb6605973a.Rlk

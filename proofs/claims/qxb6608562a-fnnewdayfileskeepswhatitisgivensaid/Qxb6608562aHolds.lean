import Derived.Test.Qxb6608562aDict
import Derived.Deep.QuietTactic
import Derived.BigQuiet
namespace Go.Proofs.Qxb6608562a.Day
open Go.RowKit
set_option linter.unusedVariables false

theorem stood32 : Try.prog.stoodInHeld 32 = false := by kernel_rfl
theorem guard32 : Try.prog.eqGuardType Try.prog.depth 32 = false := by kernel_rfl
theorem under30 : Try.prog.underlying 30 = some (.pointer (Try.prog.pointee 30)) := by kernel_rfl
theorem neq_day (s d : Int) (w : World) : (binOp .neq 32 (dayA s d) (dayA s d)).run Try.prog w = .ok (.bool false) w := by
  have hs := stood32
  have hp : (Op.equalIn 9999 30 (.pointer none) (.pointer none)).run Try.prog w = .ok true w := run_equalIn_pointer_nil w 9998 30 none under30
  simp [go_sem, run_equalIn_agg, Try.underlying32, hs, hp]

section
variable {ra : Option Addr} {len cap : Nat} {S : Nat → ByteArray} {T Wd Dc : Nat → Int} {w : World} {b g m N : Nat} {ft rc : ByteArray} {n : Int} {D : DataW Unit}

set_option maxHeartbeats 1600000 in
theorem holds_any (h : Df w b ft (some ⟨g, 0, none⟩) len len (nsN n) (dsN n) rc m) (hl : len ≤ 16384) (hr : Dict w ra len S T Wd Dc) (hrow : w.rowIs g 42 (len * 4) (fF len S T Wd Dc)) (hown : w.ownsMap Try.prog 9 (plainElem Try.prog 9) m N D) (hz : Maps.size D = 0)
    (h1 : -9223372036854775808 ≤ n) (h2 : n ≤ 9223372036854775807) :
    Calls Try.prog 9 #[ptr b, .string ft, .slice ra len cap, .int .i64 n, .string rc] w fun e w' => e = .returned (.bool true) ∧ Below w.heap.size w w' := by
  have A12 := fileType_any h
  have A13 := receiver_any h
  have A14 := day_any h
  have A8 := fun w => dayAt_any n w h1 h2
  have hnd := neq_day (nsN n) (dsN n)
  have hg := guard32
  clear h1 h2
  go_enter Try.func9, Try.ntmps9
  go_wp2_with (first
    | (go_at_call 12; refine A12.mono ?_; rintro e w' ⟨rfl, hw⟩; rw [hw]; clear hw A12)
    | (go_at_call 13; refine A13.mono ?_; rintro e w' ⟨rfl, hw⟩; rw [hw]; clear hw A13)
    | (go_at_call 14; refine A14.mono ?_; rintro e w1 ⟨rfl, hb1⟩; clear A14)
    | (go_at_call 8; refine (A8 _).mono ?_; rintro e w2 ⟨rfl, hb2⟩; clear A8))
  have hB : Below w.heap.size w w2 := hb1.trans (hb2.mono hb1.size)
  have h' := h.below hB
  refine (dictionary_any h').mono ?_
  rintro e w' ⟨rfl, hw⟩
  rw [hw]
  clear hw hnd hg hb1 hb2
  have HR : Hid (∀ i, i < len → ∃ b o, ra = some ⟨b, o, none⟩ ∧ ∀ wr, Below w2.heap.size w2 wr → wr.cell? ⟨b, o + i * 4, none⟩ = some (.string (S i)) ∧ wr.cell? ⟨b, o + i * 4 + 1, none⟩ = some (.int .u8 (T i)) ∧
      wr.cell? ⟨b, o + i * 4 + 2, none⟩ = some (.int .i64 (Wd i)) ∧ wr.cell? ⟨b, o + i * 4 + 3, none⟩ = some (.int .i64 (Dc i))) := fun i hi => by
    obtain ⟨b, o, e, c0, c1, c2, c3⟩ := hr i hi
    have hbz := World.block_lt_of_cell? w _ c0
    exact ⟨b, o, e, fun wr hb => by
      have hW := hB.trans (hb.mono hB.size)
      exact ⟨(hW.cell (p := ⟨b, o + i * 4, none⟩) hbz).trans c0, (hW.cell (p := ⟨b, o + i * 4 + 1, none⟩) hbz).trans c1, (hW.cell (p := ⟨b, o + i * 4 + 2, none⟩) hbz).trans c2, (hW.cell (p := ⟨b, o + i * 4 + 3, none⟩) hbz).trans c3⟩⟩
  have HG : Hid (∀ i, i < len → ∀ wr, Below w2.heap.size w2 wr → wr.cell? ⟨g, i * 4, none⟩ = some (.string (S i)) ∧ wr.cell? ⟨g, i * 4 + 1, none⟩ = some (.int .u8 (T i)) ∧
      wr.cell? ⟨g, i * 4 + 2, none⟩ = some (.int .i64 (Wd i)) ∧ wr.cell? ⟨g, i * 4 + 3, none⟩ = some (.int .i64 (Dc i))) := fun i hi wr hb => by
    have hW := hB.trans (hb.mono hB.size)
    have r := hrow.of_block (hW.block g hrow.lt)
    exact ⟨by rw [r.cell (by omega), fF_0, if_pos hi], by rw [r.cell (by omega), fF_1, if_pos hi], by rw [r.cell (by omega), fF_2, if_pos hi], by rw [r.cell (by omega), fF_3, if_pos hi]⟩
  have HM : Hid (∀ wr, Below w2.heap.size w2 wr → wr.ownsMap Try.prog 9 (plainElem Try.prog 9) m N D ∧ Df wr b ft (some ⟨g, 0, none⟩) len len (nsN n) (dsN n) rc m ∧ Below w.heap.size w wr) := fun wr hb => by
    have hW := hB.trans (hb.mono hB.size)
    refine ⟨?_, h.below hW, hW⟩
    have hlt := hown.lt
    obtain ⟨es, clock, hb', r'⟩ := hown
    exact ⟨es, clock, (hW.block m hlt).trans hb', r'⟩
  clear hr hrow hown h h' hB
  go_wp2_with fail
  go_loopw [12] (fun i wr => ∃ k : Nat, k ≤ len ∧ i = .int .i64 k ∧ Below w2.heap.size w2 wr) (fun i _ => len - (intOf i).toNat)
  case atStart => exact ⟨0, Nat.zero_le _, rfl, Below.refl _ _⟩
  case round =>
    obtain ⟨k, hk, rfl, hb⟩ := hrel
    by_cases hlt : k < len
    · obtain ⟨b', o, rfl, cc⟩ := HR.out k hlt
      obtain ⟨k0, k1, k2, k3⟩ := cc wr hb
      obtain ⟨q0, q1, q2, q3⟩ := HG.out k hlt wr hb
      have HB : Hid (Below w2.heap.size w2 wr) := hb
      have b1 : (k : Int) < len := by omega
      clear cc hb HR HG HM hz
      go_wp2
      go_quiet (fail)
      go_wp2
      go_roundw
      case rel => exact ⟨k + 1, by omega, by go_num, below_drewN HB.out _⟩
      case measure => simp [intOf]; omega
    · obtain ⟨hown, hdf, hW⟩ := HM.out wr hb
      have hlen : ∀ ty, (Builtin.len_ #[35] ty #[.map (some m)]).run Try.prog wr = .ok (.int .i64 0) wr := fun ty => by
        have := hown.len Try.underlying35 ty
        rw [hz] at this
        exact this
      have q35 : ∀ (w : World) (r : Option Nat), (binOp .neq 35 (.map r) (.map none)).run Try.prog w = .ok (.bool (!r.isNone)) w := fun w r => run_neq_map_nil w _ _ _ r Try.underlying35
      have A10 := senders_any hdf
      have HW : Hid (Below w.heap.size w wr) := hW
      clear hdf hW HR HG HM hb hz
      go_wp2_with (go_at_call 10; refine A10.mono ?_; rintro e w' ⟨rfl, hw⟩; rw [hw]; clear hw A10)
      go_ret
      exact ⟨rfl, HW.out⟩
end
end Go.Proofs.Qxb6608562a.Day

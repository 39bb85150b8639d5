import Derived.Test.Qxb6605797aZchain
namespace Go.Proofs.Qxb6605797a.Chn
open Go.RowKit
set_option linter.unusedVariables false

theorem method_lpos (a : Addr) (w : World) : (method 174 42 (.pointer (some a)) "Pos").run Try.prog w = .ok (34, .pointer (some a)) w := by kernel_rfl
abbrev posV (l c : Int) : Value := .agg #[.int .i64 l, .int .i64 c]

abbrev posO (l c : Int) : Obj := .cells #[.int .i64 l, .int .i64 c] 40
theorem start_facts {B : Nat → Nat} {m L g N : Nat} {l c : Int} {w w1 : World} {f : Nat → Value} (hsp : Spine w B m L) (h0 : w.cell? ⟨L, 0, none⟩ = some (.int .i64 l)) (h1 : w.cell? ⟨L, 1, none⟩ = some (.int .i64 c))
    (hrow : w1.rowIs g 38 N f) (hN : m + 1 ≤ N) (hf : ∀ i, i ≤ m → f i = ico (B i)) (hb : Below (w.alloc (posO 0 0)).heap.size (w.alloc (posO 0 0)) w1) :
    w1.cell? ⟨g, 0, none⟩ = some (ico (B 0)) ∧ w1.cell? ⟨B 0, 0, none⟩ = some (ilit L) ∧ (∃ y, w1.cell? ⟨B 0, 1, none⟩ = some y) ∧ w1.cell? ⟨L, 0, none⟩ = some (.int .i64 l) ∧ w1.cell? ⟨L, 1, none⟩ = some (.int .i64 c) ∧
    w1.cell? ⟨w.heap.size, 0, none⟩ = some (.int .i64 0) ∧ w1.cell? ⟨w.heap.size, 1, none⟩ = some (.int .i64 0) ∧ w1.frozen? ⟨w.heap.size, 0, none⟩ = false ∧ w1.frozen? ⟨w.heap.size, 1, none⟩ = false ∧ w.heap.size < w1.heap.size ∧ Hid (Below w.heap.size w w1) := by
  have hL : L < w.heap.size := World.block_lt_of_cell? w _ h0
  have hB : Below w.heap.size w w1 := ((Below.refl _ _).alloc (Nat.le_refl _) _).trans (hb.mono (by simp))
  have S := hsp.below (Nat.le_refl _) hB
  refine ⟨by rw [hrow.cell (by omega), hf 0 (Nat.zero_le _)], S.x0, S.ys 0 (Nat.zero_le _), (hB.cell (p := ⟨L, 0, none⟩) hL).trans h0, (hB.cell (p := ⟨L, 1, none⟩) hL).trans h1, ?_, ?_, ?_, ?_, ?_, hB⟩
  · exact (hb.cell (p := ⟨w.heap.size, 0, none⟩) (by simp)).trans (by simp)
  · exact (hb.cell (p := ⟨w.heap.size, 1, none⟩) (by simp)).trans (by simp)
  · exact (hb.frozen (p := ⟨w.heap.size, 0, none⟩) (by simp)).trans (by simp)
  · exact (hb.frozen (p := ⟨w.heap.size, 1, none⟩) (by simp)).trans (by simp)
  · have := hb.size; simp at this; omega

set_option maxHeartbeats 400000 in
theorem start_any (B : Nat → Nat) (m L : Nat) (l c : Int) (w : World) (hsp : Spine w B m L) (h0 : w.cell? ⟨L, 0, none⟩ = some (.int .i64 l)) (h1 : w.cell? ⟨L, 1, none⟩ = some (.int .i64 c)) (hm : m ≤ 70000) :
    Calls Try.prog 16 #[ico (B m)] w fun e w' => e = .returned (posV l c) ∧ Below w.heap.size w w' := by
  have hL : L < w.heap.size := World.block_lt_of_cell? w _ h0
  have Ba : ∀ o, Below w.heap.size w (w.alloc o) := fun o => (Below.refl _ _).alloc (Nat.le_refl _) o
  have C := fun o => chain_any B m L (w.alloc o) (hsp.below (Nat.le_refl _) (Ba o)) hm
  have hme := method_ops
  have hml := method_lpos
  go_enter Try.func16, Try.ntmps16
  go_wp2_with (first
    | (go_at_call 13; refine (C _).mono ?_; rintro e w1 ⟨g, cap, N, f, rfl, hg, hrow, hN, hf, hb⟩; obtain ⟨c0, x0, ⟨y, y0⟩, l0, l1, p0, p1, z0, z1, hz, HB⟩ := start_facts hsp h0 h1 hrow hN hf hb; clear hrow hN hf hb hsp h0 h1 C Ba hL)
    | (go_at_call 32; refine (operands_any _ _ _ _ x0 y0).mono ?_; rintro e w' ⟨rfl, rfl⟩)
    | (go_at_call 34; refine (litPos_any _ _ _ w1.drew l0 l1).mono ?_; rintro e w' ⟨rfl, rfl⟩))
  exact bodyPost_ret (v := posV l c) (by simp [results, Try.results16, go_sem, hz, p0, p1]) rfl ⟨rfl, ((((HB.out.setCell (Nat.le_refl _) _).setCell (Nat.le_refl _) _).alloc (by have := HB.out.size; simpa [World.setCell] using this) _).drew)⟩

theorem below_facts {w w1 : World} (hb : Below (w.alloc (posO 0 0)).heap.size (w.alloc (posO 0 0)) w1) :
    w1.cell? ⟨w.heap.size, 0, none⟩ = some (.int .i64 0) ∧ w1.cell? ⟨w.heap.size, 1, none⟩ = some (.int .i64 0) ∧ w1.frozen? ⟨w.heap.size, 0, none⟩ = false ∧ w1.frozen? ⟨w.heap.size, 1, none⟩ = false ∧ w.heap.size < w1.heap.size ∧ Hid (Below w.heap.size w w1) := by
  have hB : Below w.heap.size w w1 := ((Below.refl _ _).alloc (Nat.le_refl _) _).trans (hb.mono (by simp))
  refine ⟨?_, ?_, ?_, ?_, ?_, hB⟩
  · exact (hb.cell (p := ⟨w.heap.size, 0, none⟩) (by simp)).trans (by simp)
  · exact (hb.cell (p := ⟨w.heap.size, 1, none⟩) (by simp)).trans (by simp)
  · exact (hb.frozen (p := ⟨w.heap.size, 0, none⟩) (by simp)).trans (by simp)
  · exact (hb.frozen (p := ⟨w.heap.size, 1, none⟩) (by simp)).trans (by simp)
  · have := hb.size; simp at this; omega

theorem pos_any (B : Nat → Nat) (m L : Nat) (l c : Int) (w : World) (hsp : Spine w B m L) (h0 : w.cell? ⟨L, 0, none⟩ = some (.int .i64 l)) (h1 : w.cell? ⟨L, 1, none⟩ = some (.int .i64 c)) (hm : m ≤ 70000) :
    Calls Try.prog 14 #[ptr (B m)] w fun e w' => e = .returned (posV l c) ∧ Below w.heap.size w w' := by
  have hL : L < w.heap.size := World.block_lt_of_cell? w _ h0
  have Ba : ∀ o, Below w.heap.size w (w.alloc o) := fun o => (Below.refl _ _).alloc (Nat.le_refl _) o
  have C := fun o => start_any B m L l c (w.alloc o) (hsp.below (Nat.le_refl _) (Ba o)) (((Ba o).cell (p := ⟨L, 0, none⟩) hL).trans h0) (((Ba o).cell (p := ⟨L, 1, none⟩) hL).trans h1) hm
  clear hsp h0 h1 Ba hL
  go_enter Try.func14, Try.ntmps14
  go_wp2_with (go_at_call 16; refine (C _).mono ?_; rintro e w1 ⟨rfl, hb⟩; obtain ⟨p0, p1, z0, z1, hz, HB⟩ := below_facts hb; clear hb C)
  exact bodyPost_ret (v := posV l c) (by simp [results, Try.results14, go_sem, p0, p1]) rfl ⟨rfl, (HB.out.setCell (Nat.le_refl _) _).setCell (Nat.le_refl _) _⟩

theorem zpos_any (B : Nat → Nat) (m L : Nat) (l c : Int) (w : World) (hsp : Spine w B m L) (h0 : w.cell? ⟨L, 0, none⟩ = some (.int .i64 l)) (h1 : w.cell? ⟨L, 1, none⟩ = some (.int .i64 c)) (hm : m ≤ 70000) :
    Calls Try.prog 9 #[ptr (B m)] w fun e w' => e = .returned (.tuple #[.int .i64 l, .int .i64 c]) ∧ Below w.heap.size w w' := by
  have C := pos_any B m L l c w hsp h0 h1 hm
  clear hsp h0 h1
  go_enter Try.func9, Try.ntmps9
  go_wp2_with (go_at_call 14; refine C.mono ?_; rintro e w1 ⟨rfl, hb⟩; have HB : Hid _ := hb; clear hb C)
  go_region
  all_goals (go_wp2; go_ret2; exact ⟨rfl, (HB.out.alloc HB.out.size _).drew⟩)
end Go.Proofs.Qxb6605797a.Chn

import Derived.Test.Qxb6608562aRows
import Derived.WalkKit
import Derived.WalkSpells
import Derived.WalkLawsBesides
import Derived.Deep.OwnRows
import Derived.Laws.BitsAllLaws
namespace Go.Proofs.Qxb6608562a.Day
open Go.RowKit
set_option linter.unusedVariables false

abbrev ptr (b : Nat) : Value := .pointer (some ⟨b, 0, none⟩)
theorem ret_int {k : IntKind} {a b : Int} (h : a = b) : Ending.returned (.int k a) = .returned (.int k b) := by rw [h]

theorem and_low : bits .and .u64 0 1073741823 = 0 := by decide +kernel
theorem andNot_zero : bits .andNot .u64 0 1073741823 = 0 := by decide +kernel
theorem or_zero (x : Int) (h0 : 0 ≤ x) (hx : x < 1073741824) : bits .or .u64 0 x = x := by
  rw [u64_or 0 x (by omega) (by omega) h0 (by omega)]
  simp
  omega
theorem and_top (x : Int) (h0 : 0 ≤ x) (hx : x < 1073741824) : bits .and .u64 x 9223372036854775808 = 0 := by
  rw [u64_and x _ h0 (by omega) (by omega) (by omega)]
  have e : x.toNat &&& (9223372036854775808 : Int).toNat = 0 := by
    apply Nat.eq_of_testBit_eq
    intro i
    have e2 : (9223372036854775808 : Int).toNat = 2 ^ 63 := by decide
    rw [Nat.testBit_and, e2, Nat.testBit_two_pow, Nat.zero_testBit]
    by_cases hi : 63 = i
    · subst hi
      rw [Nat.testBit_lt_two_pow (by omega)]
      rfl
    · simp [hi]
  rw [e]
  rfl

theorem nsec_any (b : Nat) (w : World) (h : w.cell? ⟨b, 0, none⟩ = some (.int .u64 0)) : Calls Try.prog 17 #[ptr b] w fun e w' => e = .returned (.int .i32 0) ∧ w' = w := by
  have ha := and_low
  go_enter Try.func17, Try.ntmps17
  go_wp2
  go_ret
  exact ⟨rfl, rfl⟩

theorem addSec_any (b : Nat) (x d : Int) (w : World) (h : w.cell? ⟨b, 0, none⟩ = some (.int .u64 x)) (h1 : w.cell? ⟨b, 1, none⟩ = some (.int .i64 0)) (f1 : w.frozen? ⟨b, 1, none⟩ = false) (h0 : 0 ≤ x) (hx : x < 1073741824) (hd : -20000000000 ≤ d) (hd2 : d ≤ 20000000000) :
    Calls Try.prog 18 #[ptr b, .int .i64 d] w fun e w' => e = .returned (.tuple #[]) ∧ w' = w.setCell ⟨b, 1, none⟩ (.int .i64 d) := by
  have ha := and_top x h0 hx
  go_enter Try.func18, Try.ntmps18
  go_wp2
  all_goals (go_end0; exact ⟨rfl, rfl⟩)

abbrev zeroT : Value := .agg #[.int .u64 0, .int .i64 0, .pointer none]
abbrev dayA (s d : Int) : Value := .agg #[.int .u64 s, .int .i64 d, .pointer none]
abbrev dayO (s d : Int) : Obj := .cells #[.int .u64 s, .int .i64 d, .pointer none] 32

set_option maxHeartbeats 800000 in
theorem add_pos (n : Int) (w : World) (h0 : 0 ≤ n) (hn : n ≤ 9223372036854775807) :
    Calls Try.prog 11 #[zeroT, .int .i64 n] w fun e w' => e = .returned (dayA (n % 1000000000) (n / 1000000000)) ∧ Below w.heap.size w w' := by
  have m0 : 0 ≤ n % 1000000000 := by omega
  have m1 : n % 1000000000 < 1000000000 := by omega
  have d0 : 0 ≤ n / 1000000000 := by omega
  have d1 : n / 1000000000 ≤ 10000000000 := by omega
  have hor := or_zero (n % 1000000000) m0 (by omega)
  have han := andNot_zero
  have hat := and_top (n % 1000000000) m0 (by omega)
  go_enter Try.func11, Try.ntmps11
  go_wp2_with (first
    | (go_at_call 17; refine (nsec_any _ _ (by simp [go_sem])).mono ?_; rintro e w' ⟨rfl, hw⟩; rw [hw]; clear hw)
    | (go_at_call 18; refine (addSec_any _ (n % 1000000000) (n / 1000000000) _ (by simp [go_sem]) (by simp [go_sem]) (by simp [go_sem]) m0 (by omega) (by omega) (by omega)).mono ?_; rintro e w' ⟨rfl, rfl⟩))
  exact bodyPost_ret (v := dayA (n % 1000000000) (n / 1000000000)) (by simp [results, Try.results11, go_sem]) rfl ⟨rfl, ((Below.refl _ _).alloc (Nat.le_refl _) _).alloc (by simp) _⟩

theorem neg_mod {n : Int} (h : n < 0) : n.tmod 1000000000 = -((-n) % 1000000000) := by
  have e : n = -(-n) := by omega
  rw [e, Int.neg_tmod, Int.neg_neg, Int.tmod_eq_emod_of_nonneg (by omega)]
theorem neg_div {n : Int} (h : n < 0) : n.tdiv 1000000000 = -((-n) / 1000000000) := by
  have e : n = -(-n) := by omega
  rw [e, Int.neg_tdiv, Int.neg_neg, Int.tdiv_eq_ediv_of_nonneg (by omega)]

set_option maxHeartbeats 800000 in
theorem add_neg (n : Int) (w : World) (h0 : n < 0) (hn : -9223372036854775808 ≤ n) (hr : n.tmod 1000000000 < 0) :
    Calls Try.prog 11 #[zeroT, .int .i64 n] w fun e w' => e = .returned (dayA (n.tmod 1000000000 + 1000000000) (n.tdiv 1000000000 - 1)) ∧ Below w.heap.size w w' := by
  have e1 := neg_mod h0
  have e2 := neg_div h0
  have m0 : -1000000000 < n.tmod 1000000000 := by omega
  have d0 : -10000000000 ≤ n.tdiv 1000000000 := by omega
  have d1 : n.tdiv 1000000000 ≤ 10000000000 := by omega
  clear e1 e2
  have hor := or_zero (n.tmod 1000000000 + 1000000000) (by omega) (by omega)
  have han := andNot_zero
  have hat := and_top (n.tmod 1000000000 + 1000000000) (by omega) (by omega)
  have p0 : 0 ≤ n.tmod 1000000000 + 1000000000 := by omega
  go_enter Try.func11, Try.ntmps11
  go_wp2_with (first
    | (go_at_call 17; refine (nsec_any _ _ (by simp [go_sem])).mono ?_; rintro e w' ⟨rfl, hw⟩; rw [hw]; clear hw)
    | (go_at_call 18; refine (addSec_any _ (n.tmod 1000000000 + 1000000000) (n.tdiv 1000000000 - 1) _ (by simp [go_sem]) (by simp [go_sem]) (by simp [go_sem]) p0 (by omega) (by omega) (by omega)).mono ?_; rintro e w' ⟨rfl, rfl⟩))
  exact bodyPost_ret (v := dayA (n.tmod 1000000000 + 1000000000) (n.tdiv 1000000000 - 1)) (by simp [results, Try.results11, go_sem]) rfl ⟨rfl, ((Below.refl _ _).alloc (Nat.le_refl _) _).alloc (by simp) _⟩

set_option maxHeartbeats 800000 in
theorem add_flat (n : Int) (w : World) (h0 : n < 0) (hn : -9223372036854775808 ≤ n) (hr : ¬ n.tmod 1000000000 < 0) :
    Calls Try.prog 11 #[zeroT, .int .i64 n] w fun e w' => e = .returned (dayA (n.tmod 1000000000) (n.tdiv 1000000000)) ∧ Below w.heap.size w w' := by
  have e1 := neg_mod h0
  have e2 := neg_div h0
  have m0 : 0 ≤ n.tmod 1000000000 := by omega
  have m1 : n.tmod 1000000000 < 1000000000 := by omega
  have d0 : -10000000000 ≤ n.tdiv 1000000000 := by omega
  have d1 : n.tdiv 1000000000 ≤ 10000000000 := by omega
  clear e1 e2
  have hor := or_zero (n.tmod 1000000000) (by omega) (by omega)
  have han := andNot_zero
  have hat := and_top (n.tmod 1000000000) (by omega) (by omega)
  go_enter Try.func11, Try.ntmps11
  go_wp2_with (first
    | (go_at_call 17; refine (nsec_any _ _ (by simp [go_sem])).mono ?_; rintro e w' ⟨rfl, hw⟩; rw [hw]; clear hw)
    | (go_at_call 18; refine (addSec_any _ (n.tmod 1000000000) (n.tdiv 1000000000) _ (by simp [go_sem]) (by simp [go_sem]) (by simp [go_sem]) m0 (by omega) (by omega) (by omega)).mono ?_; rintro e w' ⟨rfl, rfl⟩))
  exact bodyPost_ret (v := dayA (n.tmod 1000000000) (n.tdiv 1000000000)) (by simp [results, Try.results11, go_sem]) rfl ⟨rfl, ((Below.refl _ _).alloc (Nat.le_refl _) _).alloc (by simp) _⟩

def nsN (n : Int) : Int := if 0 ≤ n then n % 1000000000 else if n.tmod 1000000000 < 0 then n.tmod 1000000000 + 1000000000 else n.tmod 1000000000
def dsN (n : Int) : Int := if 0 ≤ n then n / 1000000000 else if n.tmod 1000000000 < 0 then n.tdiv 1000000000 - 1 else n.tdiv 1000000000
theorem add_any (n : Int) (w : World) (h1 : -9223372036854775808 ≤ n) (h2 : n ≤ 9223372036854775807) :
    Calls Try.prog 11 #[zeroT, .int .i64 n] w fun e w' => e = .returned (dayA (nsN n) (dsN n)) ∧ Below w.heap.size w w' := by
  unfold nsN dsN
  by_cases h0 : 0 ≤ n
  · rw [if_pos h0, if_pos h0]; exact add_pos n w h0 h2
  · rw [if_neg h0, if_neg h0]
    by_cases hr : n.tmod 1000000000 < 0
    · rw [if_pos hr, if_pos hr]; exact add_neg n w (by omega) h1 hr
    · rw [if_neg hr, if_neg hr]; exact add_flat n w (by omega) h1 hr

theorem below_facts {w w1 : World} (hb : Below (w.alloc (dayO 0 0)).heap.size (w.alloc (dayO 0 0)) w1) :
    w1.cell? ⟨w.heap.size, 0, none⟩ = some (.int .u64 0) ∧ w1.cell? ⟨w.heap.size, 1, none⟩ = some (.int .i64 0) ∧ w1.cell? ⟨w.heap.size, 2, none⟩ = some (.pointer none) ∧ w1.frozen? ⟨w.heap.size, 0, none⟩ = false ∧ w1.frozen? ⟨w.heap.size, 1, none⟩ = false ∧ w1.frozen? ⟨w.heap.size, 2, none⟩ = false ∧ w.heap.size < w1.heap.size ∧ Hid (Below w.heap.size w w1) := by
  have hB : Below w.heap.size w w1 := ((Below.refl _ _).alloc (Nat.le_refl _) _).trans (hb.mono (by simp))
  refine ⟨?_, ?_, ?_, ?_, ?_, ?_, ?_, hB⟩
  · exact (hb.cell (p := ⟨w.heap.size, 0, none⟩) (by simp)).trans (by simp)
  · exact (hb.cell (p := ⟨w.heap.size, 1, none⟩) (by simp)).trans (by simp)
  · exact (hb.cell (p := ⟨w.heap.size, 2, none⟩) (by simp)).trans (by simp)
  · exact (hb.frozen (p := ⟨w.heap.size, 0, none⟩) (by simp)).trans (by simp)
  · exact (hb.frozen (p := ⟨w.heap.size, 1, none⟩) (by simp)).trans (by simp)
  · exact (hb.frozen (p := ⟨w.heap.size, 2, none⟩) (by simp)).trans (by simp)
  · have := hb.size; simp at this; omega

theorem dayAt_any (n : Int) (w : World) (h1 : -9223372036854775808 ≤ n) (h2 : n ≤ 9223372036854775807) :
    Calls Try.prog 8 #[.int .i64 n] w fun e w' => e = .returned (dayA (nsN n) (dsN n)) ∧ Below w.heap.size w w' := by
  have C := fun w => add_any n w h1 h2
  obtain ⟨s, hs⟩ : ∃ s, s = nsN n := ⟨_, rfl⟩
  obtain ⟨d, hd⟩ : ∃ d, d = dsN n := ⟨_, rfl⟩
  rw [← hs, ← hd] at C ⊢
  clear hs hd h1 h2
  go_enter Try.func8, Try.ntmps8
  go_wp2_with (go_at_call 11; refine (C _).mono ?_; rintro e w1 ⟨rfl, hb⟩; obtain ⟨p0, p1, p2, z0, z1, z2, hz, HB⟩ := below_facts hb; clear hb C)
  exact bodyPost_ret (v := dayA s d) (by simp [results, Try.results8, go_sem, p0, p1, p2]) rfl ⟨rfl, ((HB.out.setCell (Nat.le_refl _) _).setCell (Nat.le_refl _) _).setCell (Nat.le_refl _) _⟩
end Go.Proofs.Qxb6608562a.Day

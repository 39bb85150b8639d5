import Derived.Test.Qxb6605730aRows
import Derived.WalkKit
import Derived.WalkLawsBesides
namespace Go.Proofs.Qxb6605730a.ErrText
open Go.RowKit
set_option linter.unusedVariables false

/-- the colon and the blank that stand between code and message -/
theorem split_at (m1 m2 : List UInt8) : ∀ (c1 c2 : List UInt8), (58 : UInt8) ∉ c1 → (58 : UInt8) ∉ c2 →
    c1 ++ 58 :: m1 = c2 ++ 58 :: m2 → c1 = c2 ∧ m1 = m2
  | [], [], _, _, h => by simpa using h
  | [], y :: ys, _, h2, h => by
      simp at h
      exact absurd h.1.symm (fun e => h2 (by simp [e]))
  | x :: xs, [], h1, _, h => by
      simp at h
      exact absurd h.1 (fun e => h1 (by simp [e]))
  | x :: xs, y :: ys, h1, h2, h => by
      simp at h
      have ih := split_at m1 m2 xs ys (fun e => h1 (List.mem_cons_of_mem _ e)) (fun e => h2 (List.mem_cons_of_mem _ e)) h.2
      exact ⟨by rw [h.1, ih.1], ih.2⟩

/-- does the text hold a colon? -/
def colB (s : ByteArray) : Bool := s.data.toList.contains 58

theorem ret_bool {a b : Bool} (h : a = b) : Ending.returned (.bool a) = .returned (.bool b) := by rw [h]
theorem colB_yes (s : ByteArray) (k : Nat) (h : k < s.size) (e : ((s[k].toNat : Int) == 58) = true) : colB s = true := by
  have e2 : s[k] = 58 := by
    apply UInt8.toNat_inj.1
    have := eq_of_beq e
    show s[k].toNat = 58
    omega
  unfold colB
  rw [List.contains_iff_mem, ← e2]
  exact List.getElem_mem (l := s.data.toList) (by simpa using h)
theorem colB_no (s : ByteArray) (hn : ∀ j, ∀ h : j < s.size, s[j] ≠ 58) : colB s = false := by
  unfold colB
  rw [Bool.eq_false_iff]
  intro hc
  rw [List.contains_iff_mem] at hc
  obtain ⟨j, hj, e⟩ := List.getElem_of_mem hc
  exact hn j (by simpa using hj) e
theorem no_step (s : ByteArray) (k : Nat) (hk : k < s.size) (hn : ∀ j, ∀ h : j < s.size, j < k → s[j] ≠ 58) (e : ((s[k].toNat : Int) == 58) = false) :
    ∀ j, ∀ h : j < s.size, j < k + 1 → s[j] ≠ 58 := by
  intro j h hj
  by_cases hjk : j < k
  · exact hn j h hjk
  · obtain rfl : j = k := by omega
    intro e2
    rw [e2] at e
    exact absurd e (by decide)

theorem join_toList (c m : ByteArray) : (c ++ ⟨#[58, 32]⟩ ++ m).toList = c.toList ++ 58 :: 32 :: m.toList := by
  rw [ByteArray.toList_eq, ByteArray.toList_eq, ByteArray.toList_eq]
  simp
theorem law_same (a0 a1 a2 a3 : ByteArray) (he : a0.toList = a2.toList) :
    (((a0 ++ ⟨#[58, 32]⟩ ++ a1).toList == (a2 ++ ⟨#[58, 32]⟩ ++ a3).toList) == (a1.toList == a3.toList)) = true := by
  rw [join_toList, join_toList, he, beq_iff_eq, Bool.eq_iff_iff]
  simp
theorem law_other (a0 a1 a2 a3 : ByteArray) (h0 : ¬ colB a0 = true) (h2 : colB a2 = false) (he : ¬ a0.toList = a2.toList) :
    (!((a0 ++ ⟨#[58, 32]⟩ ++ a1).toList == (a2 ++ ⟨#[58, 32]⟩ ++ a3).toList)) = true := by
  rw [join_toList, join_toList]
  simp only [Bool.not_eq_true', beq_eq_false_iff_ne, ne_eq]
  intro e
  refine he (split_at _ _ _ _ ?_ ?_ e).1
  · rw [ByteArray.toList_eq]; intro hm; exact h0 (List.contains_iff_mem.2 hm)
  · rw [ByteArray.toList_eq]; intro hm; have := List.contains_iff_mem.2 hm; unfold colB at h2; rw [h2] at this; cases this

theorem bytes_any (a0 a1 a2 a3 : ByteArray) (w : World) (w0 : a0.size ≤ maxLen) (w1 : a1.size ≤ maxLen) (w2 : a2.size ≤ maxLen) (w3 : a3.size ≤ maxLen) :
    Calls Try.prog 4 #[.string a0, .string a1, .string a2, .string a3] w fun e w' => (∃ b, e = .returned (.bool b)) ∧ w' = w := by
  unfold maxLen at w0 w1 w2 w3
  go_enter Try.func4, Try.ntmps4
  go_wp2
  all_goals (go_ret; exact ⟨⟨_, rfl⟩, rfl⟩)

theorem colon_any (s : ByteArray) (w : World) (hs : s.size ≤ maxLen) :
    Calls Try.prog 5 #[.string s] w fun e w' => e = .returned (.bool (colB s)) ∧ w' = w := by
  unfold maxLen at hs
  go_enter Try.func5, Try.ntmps5
  go_wp2
  go_loop [3] (fun i => ∃ k : Nat, k ≤ s.size ∧ i = .int .i64 k ∧ (∀ j, ∀ h : j < s.size, j < k → s[j] ≠ 58)) (fun i => s.size - (intOf i).toNat)
  case atStart => exact ⟨0, Nat.zero_le _, rfl, fun j h hj => absurd hj (by omega)⟩
  case round =>
    obtain ⟨k, hk, rfl, hno⟩ := hrel
    have HN : Hid (∀ j, ∀ h : j < s.size, j < k → s[j] ≠ 58) := hno
    clear hno
    go_wp2
    · have hlt : k < s.size := by assumption
      have he : ((s[k].toNat : Int) == 58) = true := by assumption
      go_ret
      exact ⟨ret_bool (colB_yes s k hlt he).symm, rfl⟩
    · have hlt : k < s.size := by assumption
      have he : ((s[k].toNat : Int) == 58) = false := by assumption
      go_round
      case rel => exact ⟨k + 1, by omega, by go_num, no_step s k hlt HN.out he⟩
      case measure => simp [intOf]; omega
    · have hge : ¬ k < s.size := by assumption
      go_ret
      exact ⟨ret_bool (colB_no s (fun j h => HN.out j h (by omega))).symm, rfl⟩

theorem error_any (b : Nat) (c m : ByteArray) (w : World) (h0 : w.cell? ⟨b, 0, none⟩ = some (.string c)) (h1 : w.cell? ⟨b, 1, none⟩ = some (.string m)) (hc : c.size ≤ 262144) (hm : m.size ≤ 262144) :
    Calls Try.prog 7 #[.pointer (some ⟨b, 0, none⟩)] w fun e w' => e = .returned (.string (c ++ ⟨#[58, 32]⟩ ++ m)) ∧ w' = w.drew := by
  have n1 : ¬ 9223372036854775807 < c.size + 2 := by omega
  have n2 : ¬ 9223372036854775807 < c.size + 2 + m.size := by omega
  go_enter Try.func7, Try.ntmps7
  go_wp2
  go_region
  all_goals (go_wp2; go_ret; exact ⟨rfl, rfl⟩)

theorem text_any (c m : ByteArray) (w : World) (hc : c.size ≤ 262144) (hm : m.size ≤ 262144) :
    Calls Try.prog 6 #[.string c, .string m] w fun e w' => e = .returned (.string (c ++ ⟨#[58, 32]⟩ ++ m)) ∧ w' = (w.alloc (.cells #[.string c, .string m] 27)).drew := by
  have k0 : (w.alloc (.cells #[.string c, .string m] 27)).cell? ⟨w.heap.size, 0, none⟩ = some (.string c) := by simp
  have k1 : (w.alloc (.cells #[.string c, .string m] 27)).cell? ⟨w.heap.size, 1, none⟩ = some (.string m) := by simp
  go_enter Try.func6, Try.ntmps6
  go_wp2_with (go_at_call 7; refine (error_any _ _ _ _ k0 k1 hc hm).mono ?_; rintro e w' ⟨rfl, rfl⟩)
  go_ret
  exact ⟨rfl, rfl⟩

theorem walk (a0 a1 a2 a3 : ByteArray) (w0 : a0.size ≤ maxLen) (w1 : a1.size ≤ maxLen) (w2 : a2.size ≤ maxLen) (w3 : a3.size ≤ maxLen) (w : World) :
    Calls Try.prog 3 #[.string a0, .string a1, .string a2, .string a3] w fun e w' => e = .returned (.bool true) ∧ Grown w w' := by
  have B := bytes_any a0 a1 a2 a3 w w0 w1 w2 w3
  unfold maxLen at w0 w1 w2 w3
  go_enter Try.func3, Try.ntmps3
  go_wp2_with (first
    | (go_at_call 4; refine B.mono ?_; rintro e w' ⟨⟨b, rfl⟩, rfl⟩)
    | (go_at_call 5; refine (colon_any _ _ (by unfold maxLen; omega)).mono ?_; rintro e w' ⟨rfl, rfl⟩)
    | (go_at_call 6; refine (text_any _ _ _ (by omega) (by omega)).mono ?_; rintro e w' ⟨rfl, rfl⟩))
  all_goals first
    | (go_ret; exact ⟨rfl, by repeat (first | exact Grown.refl _ | apply Grown.drew | apply Grown.alloc)⟩)
    | (have h0 : ¬ colB a0 = true := by assumption
       have h2 : colB a2 = false := by assumption
       have he : a0.toList = a2.toList := by assumption
       go_ret
       exact ⟨ret_bool (law_same a0 a1 a2 a3 he), by repeat (first | exact Grown.refl _ | apply Grown.drew | apply Grown.alloc)⟩)
    | (have h0 : ¬ colB a0 = true := by assumption
       have h2 : colB a2 = false := by assumption
       have he : ¬ a0.toList = a2.toList := by assumption
       go_ret
       exact ⟨ret_bool (law_other a0 a1 a2 a3 h0 h2 he), by repeat (first | exact Grown.refl _ | apply Grown.drew | apply Grown.alloc)⟩)
end Go.Proofs.Qxb6605730a.ErrText

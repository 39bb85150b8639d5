import Derived.Test.Qxb6605973aOps
namespace Go.Proofs.Qxb6605973a.Rlk
open Go.RowKit Go.WideMaps Go.Maps
set_option linter.unusedVariables false

/-- how many kept locks each name has behind the first k steps -/
def cntH (S : Nat → ByteArray) (T : Nat → Bool) : Nat → Key → Nat
  | 0 => fun _ => 0
  | k + 1 => if T k = true then upd (cntH S T k) (key S k) (cntH S T k (key S k) + 1) else cntH S T k
/-- how many names are kept behind the first k steps -/
def dstH (S : Nat → ByteArray) (T : Nat → Bool) : Nat → Nat
  | 0 => 0
  | k + 1 => if T k = true then bump (cntH S T k (key S k)) (dstH S T k) else dstH S T k
section
variable {S : Nat → ByteArray} {T : Nat → Bool}
theorem cntH_hold {k : Nat} (h : T k = true) : cntH S T (k + 1) = upd (cntH S T k) (key S k) (cntH S T k (key S k) + 1) := if_pos h
theorem cntH_trip {k : Nat} (h : T k = false) : cntH S T (k + 1) = cntH S T k := if_neg (by rw [h]; decide)
theorem dstH_hold {k : Nat} (h : T k = true) : dstH S T (k + 1) = bump (cntH S T k (key S k)) (dstH S T k) := if_pos h
theorem dstH_trip {k : Nat} (h : T k = false) : dstH S T (k + 1) = dstH S T k := if_neg (by rw [h]; decide)
theorem cntH_hit {k : Nat} {q : Key} (h : T k = true) (e : key S k = q) : cntH S T (k + 1) q = cntH S T k q + 1 := by
  subst e; rw [cntH_hold h, upd_same]
theorem cntH_miss {k : Nat} {q : Key} (e : key S k ≠ q) : cntH S T (k + 1) q = cntH S T k q := by
  cases h : T k
  · rw [cntH_trip h]
  · rw [cntH_hold h, upd_other (Ne.symm e)]
theorem cntH_le (q : Key) : ∀ k, cntH S T k q ≤ cnt S k q
  | 0 => Nat.le_refl _
  | k + 1 => by
    have ih := cntH_le q k
    by_cases e : key S k = q
    · rw [cnt_hit S k q e]
      cases h : T k
      · rw [cntH_trip h]; omega
      · rw [cntH_hit h e]; omega
    · rw [cnt_miss S k q e, cntH_miss e]; exact ih
theorem dstH_le : ∀ k, dstH S T k ≤ k
  | 0 => Nat.le_refl _
  | k + 1 => by
    have := dstH_le k
    cases h : T k
    · rw [dstH_trip h]; omega
    · rw [dstH_hold h]; unfold bump; split <;> omega

/-- of the first n steps: how many are the first of their name, the name of the kind P -/
def firsts (S : Nat → ByteArray) (P : Key → Bool) : Nat → Nat
  | 0 => 0
  | i + 1 => if cnt S i (key S i) = 0 ∧ P (key S i) = true then firsts S P i + 1 else firsts S P i
theorem firsts_yes {P : Key → Bool} {i : Nat} (h : cnt S i (key S i) = 0) (hp : P (key S i) = true) : firsts S P (i + 1) = firsts S P i + 1 := if_pos ⟨h, hp⟩
theorem firsts_no {P : Key → Bool} {i : Nat} (h : ¬ (cnt S i (key S i) = 0 ∧ P (key S i) = true)) : firsts S P (i + 1) = firsts S P i := if_neg h
theorem firsts_le (P : Key → Bool) : ∀ n, firsts S P n ≤ n
  | 0 => Nat.le_refl _
  | n + 1 => by
    have := firsts_le P n
    by_cases h : cnt S n (key S n) = 0 ∧ P (key S n) = true
    · rw [firsts_yes h.1 h.2]; omega
    · rw [firsts_no h]; omega

/-- one name more of the kind -/
theorem firsts_add (P P' : Key → Bool) (q : Key) (hq : P' q = true) (ho : ∀ q', q' ≠ q → P' q' = P q') : ∀ n, firsts S P' n = firsts S P n + (if 0 < cnt S n q ∧ P q = false then 1 else 0)
  | 0 => by
    show 0 = 0 + _
    rw [if_neg (fun h => absurd h.1 (by show ¬ 0 < 0; omega))]
  | n + 1 => by
    have ih := firsts_add P P' q hq ho n
    by_cases e : key S n = q
    · have hc := cnt_hit S n q e
      by_cases hz : cnt S n q = 0
      · rw [firsts_yes (P := P') (by rw [e]; exact hz) (by rw [e]; exact hq), ih]
        cases hp : P q
        · rw [firsts_no (P := P) (by rw [e, hp]; simp), if_neg (by omega), if_pos ⟨by omega, rfl⟩]
        · rw [firsts_yes (P := P) (by rw [e]; exact hz) (by rw [e]; exact hp), if_neg (by simp), if_neg (by simp)]
      · rw [firsts_no (P := P') (by rw [e]; exact fun h => hz h.1), firsts_no (P := P) (by rw [e]; exact fun h => hz h.1), ih]
        cases hp : P q
        · rw [if_pos ⟨by omega, rfl⟩, if_pos ⟨by omega, rfl⟩]
        · rw [if_neg (by simp), if_neg (by simp)]
    · rw [cnt_miss S n q e]
      have hP := ho (key S n) e
      by_cases h : cnt S n (key S n) = 0 ∧ P (key S n) = true
      · rw [firsts_yes (P := P') h.1 (by rw [hP]; exact h.2), firsts_yes (P := P) h.1 h.2, ih]; omega
      · rw [firsts_no (P := P') (by rw [hP]; exact h), firsts_no (P := P) h, ih]

/-- the names that are kept at the end are as many as the steps that are the first of a kept name -/
def keptB (S : Nat → ByteArray) (T : Nat → Bool) (n : Nat) (q : Key) : Bool := decide (0 < cntH S T n q)
theorem firsts_dst : ∀ n, firsts S (keptB S T n) n = dstH S T n
  | 0 => rfl
  | n + 1 => by
    have ih := firsts_dst n
    cases h : T n
    · have e : keptB S T (n + 1) = keptB S T n := by funext q; unfold keptB; rw [cntH_trip h]
      rw [dstH_trip h, e, firsts_no, ih]
      intro hc
      have := cntH_le (S := S) (T := T) (key S n) n
      have h2 := hc.2
      unfold keptB at h2
      simp at h2
      omega
    · have hq : keptB S T (n + 1) (key S n) = true := by unfold keptB; rw [cntH_hit h rfl]; simp
      have ho : ∀ q', q' ≠ key S n → keptB S T (n + 1) q' = keptB S T n q' := fun q' hq' => by unfold keptB; rw [cntH_miss (Ne.symm hq')]
      have ha := firsts_add (S := S) (keptB S T n) (keptB S T (n + 1)) (key S n) hq ho n
      rw [dstH_hold h]
      have hle := cntH_le (S := S) (T := T) (key S n) n
      by_cases hz : cntH S T n (key S n) = 0
      · rw [hz, bump_zero]
        have hp : keptB S T n (key S n) = false := by unfold keptB; rw [hz]; rfl
        by_cases hc : cnt S n (key S n) = 0
        · rw [firsts_yes hc hq, ha, if_neg (by omega), ih]
        · rw [firsts_no (fun h => hc h.1), ha, if_pos ⟨by omega, hp⟩, ih]
      · rw [bump_pos hz]
        have hp : keptB S T n (key S n) = true := by unfold keptB; simp; omega
        rw [firsts_no (fun h => absurd h.1 (by omega)), ha, if_neg (by rw [hp]; simp), ih, Nat.add_zero]
end
section
variable {J : Nat} {L rc us : Key → Nat} {sz N : Nat} {w : World}
theorem Inv.look_none {st : Int} {v : Option Nat} (h : Inv st J (.map v) L rc us sz N w) {s : ByteArray} (hs : s.size ≤ maxLen) (hk : us s.data.toList = 0) :
    (Instr.lookup 40 (.map v) (.string s) false).run Try.prog w = .ok (.pointer none) w := by
  cases v with
  | none => exact look_nil (P := Try.prog) (w := w) false law9 Try.underlying40 (zero42 w) (keyOf_string_mk Try.underlying9 hs)
  | some bm => exact h.look0 hs hk
end
end Go.Proofs.Qxb6605973a.Rlk

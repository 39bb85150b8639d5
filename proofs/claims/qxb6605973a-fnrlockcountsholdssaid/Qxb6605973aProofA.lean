/- The proof of the given statement 'Rows.FnRlockCountsHoldsSaid': the guide's frame for a law over a slice of strings; the walk lies in Qxb6605973aLawA. -/
import Derived.Test.Qxb6605973aRows
import Derived.Test.Qxb6605973aLawA
import Derived.WalkKit
import Derived.ProofKit
import Derived.OpenShut
import Derived.ChangeOld
import Derived.Below
import Derived.Deep.Strs
namespace Go.Proofs.Qxb6605973a.fnRlockCountsHolds
open Go.ChangeShapes Go.WideShapes Go.ChangeAt Go.RowKit Go.Deep
set_option linter.unusedVariables false

theorem own : ownKnob Try.prog.godebug = none := by kernel_rfl
theorem laidOut : laidOutB Try.prog = true := by kernel_rfl

theorem strs_of {w : World} {x : Addr} {len : Nat} {S : Nat → ByteArray} (hc : ∀ i, i < len → w.cell? (x.add i) = some (.string (S i))) : Rlk.Strs w (some x) len S := by
  intro i hi
  have h := hc i hi
  have h0 := hc 0 (by omega)
  obtain ⟨b, off, spot⟩ := x
  have hspot : spot = none := by simpa [Addr.add] using World.cell?_spot h0
  subst hspot
  rw [Addr.add_lit] at h
  exact ⟨b, off, rfl, h⟩

theorem walk (a0 : Option Addr) (len0 cap0 : Nat) (S : Nat → ByteArray) (w : World) (h : (a0 = none ∧ len0 = 0 ∧ cap0 = 0) ∨ ∃ x, a0 = some x ∧ len0 ≤ cap0 ∧ cap0 ≤ maxLen ∧ ∀ i, i < len0 → w.cell? (x.add i) = some (.string (S i)) ∧ (S i).size ≤ maxLen) :
    Calls Try.prog 4 #[.slice a0 len0 cap0] w fun e w' => e = .returned (.bool true) ∧ Below w.heap.size w w' := by
  rcases h with ⟨rfl, rfl, rfl⟩ | ⟨x, rfl, hl, hm, hc⟩
  · exact Rlk.law4_walk none 0 0 S w (Nat.zero_le _) (fun i hi => absurd hi (by omega)) (fun _ => rfl) (fun i hi => absurd hi (by omega))
  · exact Rlk.law4_walk (some x) len0 cap0 S w (Nat.le_trans hl hm) (fun i hi => (hc i hi).2) (fun e => by cases e) (strs_of (fun i hi => (hc i hi).1))

set_option maxRecDepth 100000 in
theorem lifted (os : Os) (started : os.Started) (H : Type) (enc : TypeId × Value → H) :
    ReturnsInHanded {} Try.checked os 4 .any (Rows.fnRlockCountsHoldsSpec.pre6 enc Try.prog Try.f4 Rows.fnRlockCountsHoldsRow.domain false) (Rows.fnRlockCountsHoldsSpec.post enc Try.prog Try.f4 false true false false) := by
  refine returnsInHanded_of_change (C := Try.checked) own started (by kernel_rfl) Try.func4
    (ChangeSpec.witness6 (enc := enc) (C := Try.checked) false ⟨#[], #[.slice none 0 0], []⟩ 8 (by kernel_rfl) (by kernel_rfl) (by kernel_rfl) (by kernel_rfl)) ?_
  intro W base args ds gs before hval0 hW hcnd _
  have hval : ∀ (j : Nat) t v, Try.f4.params[j]? = some t → args[j]? = some v → Value.okWide Try.prog W .any base t v := hval0
  have hW' := hW
  obtain ⟨p, q, hA0, hV, rfl, hfz, hnd⟩ := hW
  have hA : DataW.TrodAll enc Try.prog W 0 (fun _ => true) true Try.f4.params.toList args.toList ds p := hA0
  rw [Try.params4] at hA hval
  obtain ⟨v0, vs0, d0, ds0, p0, q0, hargs, rfl, rfl, h0, r0⟩ := trodAll_cons hA
  obtain ⟨rfl, rfl, rfl⟩ := trodAll_nil r0
  obtain rfl : args = #[v0] := by cases args; simp_all
  obtain ⟨rfl, rfl⟩ := trodVars_none hV
  obtain ⟨a0, len0, cap0, rfl⟩ := okWide_slice Try.underlying34 (hval 0 34 v0 rfl rfl)
  have k0 := h0
  have lt0 : ∀ x ∈ p0, x.block < W.heap.size := by obtain ⟨m, hm⟩ := k0; exact DataW.trod_lt m _ _ _ hm
  obtain ⟨S0, w0⟩ : ∃ S : Nat → ByteArray, (a0 = none ∧ len0 = 0 ∧ cap0 = 0) ∨ ∃ x, a0 = some x ∧ len0 ≤ cap0 ∧ cap0 ≤ maxLen ∧ ∀ i, i < len0 → W.cell? (x.add i) = some (.string (S i)) ∧ (S i).size ≤ maxLen := by
    obtain ⟨fuel, hf⟩ := h0
    rcases open_strs Try.underlying34 Try.underlying9 (by kernel_rfl) hf with ⟨hcs, _⟩ | ⟨x, l, c, m, Sx, hcs, _, hl, hm, hmm, _, hcell⟩
    · simp [Value.cells] at hcs
      obtain ⟨rfl, rfl, rfl⟩ := hcs
      exact ⟨fun _ => ByteArray.empty, .inl ⟨rfl, rfl, rfl⟩⟩
    · simp [Value.cells] at hcs
      obtain ⟨rfl, rfl, rfl⟩ := hcs
      simp only [if_true] at hmm
      exact ⟨Sx, .inr ⟨_, rfl, hl, hm, fun i hi => hcell i (by omega)⟩⟩
  clear hA0 hval0
  refine (walk a0 len0 cap0 S0 W w0).mono fun e W' ⟨he, bel⟩ => ?_
  subst he
  exact ⟨_, rfl, _, _, _, [], _, [], hW', trodAll_mk1 (shut_bool Try.underlying4 _), (trodAll_cons_mk (Below.trod laidOut (by kernel_rfl) (of_decide_eq_true (by kernel_rfl)) k0 bel lt0) trodAll_mk0), rfl, bel.frame _, fun h => by cases h⟩

theorem over : Rows.fnRlockCountsHoldsRow.holds Try.pinned (OpenSpec.ofChange Rows.fnRlockCountsHoldsSpec) :=
  OpenClaim.holds_of_wide 4 Try.f4 rfl rfl rfl rfl rfl rfl rfl ⟨rfl, rfl, rfl, rfl, rfl⟩ rfl rfl rfl rfl rfl (by kernel_rfl) Try.func4 (by kernel_rfl)
    (of_decide_eq_true (by kernel_rfl)) (by unfold Func.isWrapper; first | (rw [if_pos (by decide +kernel)]; kernel_rfl) | (rw [if_neg (by decide +kernel)]; exact ⟨rfl, rfl⟩))
    (fun os started H enc _ => lifted os started H enc)
end Go.Proofs.Qxb6605973a.fnRlockCountsHolds
namespace Go.Proofs.Qxb6605973a
theorem rlockCounts_proved : Rows.FnRlockCountsHoldsSaid := fnRlockCountsHolds.over
end Go.Proofs.Qxb6605973a

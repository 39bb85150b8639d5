/- The proof of the given statement 'Rows.FnRlockUnlockUndoesItsOwnSaid': the guide's frame for a law over a slice of pairs (string, bool); the walk lies in Qxb6605973aLawB. -/
import Derived.Test.Qxb6605973aRows
import Derived.Test.Qxb6605973aLawB
import Derived.WalkKit
import Derived.ProofKit
import Derived.OpenShut
import Derived.ChangeOld
import Derived.Below
import Derived.Deep.SlicePairs
namespace Go.Proofs.Qxb6605973a.fnRlockUnlockUndoesItsOwn
open Go.ChangeShapes Go.WideShapes Go.ChangeAt Go.RowKit Go.Deep
set_option linter.unusedVariables false

theorem own : ownKnob Try.prog.godebug = none := by kernel_rfl
theorem laidOut : laidOutB Try.prog = true := by kernel_rfl

theorem opss_of {w : World} {x : Addr} {len : Nat} {S : Nat → ByteArray} {T : Nat → Bool} (hc : ∀ i, i < len → w.cell? (x.add (i * 2)) = some (.string (S i)) ∧ w.cell? (x.add (i * 2 + 1)) = some (.bool (T i))) : Rlk.Opss w (some x) len S T := by
  intro i hi
  have h := hc i hi
  have h0 := (hc 0 (by omega)).1
  obtain ⟨b, off, spot⟩ := x
  have hspot : spot = none := by simpa [Addr.add] using World.cell?_spot h0
  subst hspot
  rw [Addr.add_lit, Addr.add_lit] at h
  exact ⟨b, off, rfl, h.1, h.2⟩

theorem walk (a0 : Option Addr) (len0 cap0 : Nat) (S : Nat → ByteArray) (T : Nat → Bool) (w : World) (h : (a0 = none ∧ len0 = 0 ∧ cap0 = 0) ∨ ∃ x, a0 = some x ∧ len0 ≤ cap0 ∧ cap0 ≤ maxLen ∧
      ∀ i, i < len0 → (w.cell? (x.add (i * 2)) = some (.string (S i)) ∧ w.cell? (x.add (i * 2 + 1)) = some (.bool (T i))) ∧ (S i).size ≤ maxLen) :
    Calls Try.prog 5 #[.slice a0 len0 cap0] w fun e w' => e = .returned (.bool true) ∧ Below w.heap.size w w' := by
  rcases h with ⟨rfl, rfl, rfl⟩ | ⟨x, rfl, hl, hm, hc⟩
  · exact Rlk.law5_walk none 0 0 S T w (Nat.zero_le _) (fun i hi => absurd hi (by omega)) (fun _ => rfl) (fun i hi => absurd hi (by omega))
  · exact Rlk.law5_walk (some x) len0 cap0 S T w (Nat.le_trans hl hm) (fun i hi => (hc i hi).2) (fun e => by cases e) (opss_of (fun i hi => (hc i hi).1))

set_option maxRecDepth 100000 in
theorem lifted (os : Os) (started : os.Started) (H : Type) (enc : TypeId × Value → H) :
    ReturnsInHanded {} Try.checked os 5 .any (Rows.fnRlockUnlockUndoesItsOwnSpec.pre6 enc Try.prog Try.f5 Rows.fnRlockUnlockUndoesItsOwnRow.domain false) (Rows.fnRlockUnlockUndoesItsOwnSpec.post enc Try.prog Try.f5 false true false false) := by
  refine returnsInHanded_of_change (C := Try.checked) own started (by kernel_rfl) Try.func5
    (ChangeSpec.witness6 (enc := enc) (C := Try.checked) false ⟨#[], #[.slice none 0 0], []⟩ 8 (by kernel_rfl) (by kernel_rfl) (by kernel_rfl) (by kernel_rfl)) ?_
  intro W base args ds gs before hval0 hW hcnd _
  have hval : ∀ (j : Nat) t v, Try.f5.params[j]? = some t → args[j]? = some v → Value.okWide Try.prog W .any base t v := hval0
  have hW' := hW
  obtain ⟨p, q, hA0, hV, rfl, hfz, hnd⟩ := hW
  have hA : DataW.TrodAll enc Try.prog W 0 (fun _ => true) true Try.f5.params.toList args.toList ds p := hA0
  rw [Try.params5] at hA hval
  obtain ⟨v0, vs0, d0, ds0, p0, q0, hargs, rfl, rfl, h0, r0⟩ := trodAll_cons hA
  obtain ⟨rfl, rfl, rfl⟩ := trodAll_nil r0
  obtain rfl : args = #[v0] := by cases args; simp_all
  obtain ⟨rfl, rfl⟩ := trodVars_none hV
  obtain ⟨a0, len0, cap0, rfl⟩ := okWide_slice Try.underlying44 (hval 0 44 v0 rfl rfl)
  have k0 := h0
  have lt0 : ∀ x ∈ p0, x.block < W.heap.size := by obtain ⟨m, hm⟩ := k0; exact DataW.trod_lt m _ _ _ hm
  obtain ⟨S0, T0, w0⟩ : ∃ (S : Nat → ByteArray) (T : Nat → Bool), (a0 = none ∧ len0 = 0 ∧ cap0 = 0) ∨ ∃ x, a0 = some x ∧ len0 ≤ cap0 ∧ cap0 ≤ maxLen ∧
      ∀ i, i < len0 → (W.cell? (x.add (i * 2)) = some (.string (S i)) ∧ W.cell? (x.add (i * 2 + 1)) = some (.bool (T i))) ∧ (S i).size ≤ maxLen := by
    obtain ⟨fuel, hf⟩ := h0
    rcases open_slice_pairs Try.underlying44 Try.underlying47 (by kernel_rfl) rfl rfl (by kernel_rfl) (by kernel_rfl) hf with ⟨hcs, _⟩ | ⟨x, l, c, m, n, V0, V1, D0, D1, P0, P1, hcs, _, hl, hm, hmm, _, hcell⟩
    · simp [Value.cells] at hcs
      obtain ⟨rfl, rfl, rfl⟩ := hcs
      exact ⟨fun _ => ByteArray.empty, fun _ => false, .inl ⟨rfl, rfl, rfl⟩⟩
    · simp [Value.cells] at hcs
      obtain ⟨rfl, rfl, rfl⟩ := hcs
      simp only [if_true] at hmm
      have each : ∀ i, i < len0 → ∃ q : ByteArray × Bool, (W.cell? (x.add (i * 2)) = some (.string q.1) ∧ W.cell? (x.add (i * 2 + 1)) = some (.bool q.2)) ∧ q.1.size ≤ maxLen := fun i hi => by
        obtain ⟨e0, e1, t0, t1⟩ := hcell i (by omega)
        obtain ⟨s, hs, _, hsz⟩ := DataW.trod_string Try.underlying9 t0
        obtain ⟨bb, hb, _⟩ := DataW.trod_bool Try.underlying4 t1
        simp at hs hb
        rw [hs] at e0
        rw [hb] at e1
        exact ⟨(s, bb), ⟨e0, e1⟩, hsz⟩
      obtain ⟨f, hf2⟩ := choose_lt each
      exact ⟨fun i => (f i).1, fun i => (f i).2, .inr ⟨_, rfl, hl, hm, hf2⟩⟩
  clear hA0 hval0
  refine (walk a0 len0 cap0 S0 T0 W w0).mono fun e W' ⟨he, bel⟩ => ?_
  subst he
  exact ⟨_, rfl, _, _, _, [], _, [], hW', trodAll_mk1 (shut_bool Try.underlying4 _), (trodAll_cons_mk (Below.trod laidOut (by kernel_rfl) (of_decide_eq_true (by kernel_rfl)) k0 bel lt0) trodAll_mk0), rfl, bel.frame _, fun h => by cases h⟩

theorem over : Rows.fnRlockUnlockUndoesItsOwnRow.holds Try.pinned (OpenSpec.ofChange Rows.fnRlockUnlockUndoesItsOwnSpec) :=
  OpenClaim.holds_of_wide 5 Try.f5 rfl rfl rfl rfl rfl rfl rfl ⟨rfl, rfl, rfl, rfl, rfl⟩ rfl rfl rfl rfl rfl (by kernel_rfl) Try.func5 (by kernel_rfl)
    (of_decide_eq_true (by kernel_rfl)) (by unfold Func.isWrapper; first | (rw [if_pos (by decide +kernel)]; kernel_rfl) | (rw [if_neg (by decide +kernel)]; exact ⟨rfl, rfl⟩))
    (fun os started H enc _ => lifted os started H enc)
end Go.Proofs.Qxb6605973a.fnRlockUnlockUndoesItsOwn
namespace Go.Proofs.Qxb6605973a
theorem rlockUndoes_proved : Rows.FnRlockUnlockUndoesItsOwnSaid := fnRlockUnlockUndoesItsOwn.over
end Go.Proofs.Qxb6605973a

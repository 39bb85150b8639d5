/- The proof of the given statement 'Rows.FnNewDayFilesKeepsWhatItIsGivenSaid': the guide's frame; the dictionary (a slice of structs of four cells) is opened element by element; the walk lies in Qxb6608562aLaw. -/
import Derived.Test.Qxb6608562aRows
import Derived.Test.Qxb6608562aLaw
import Derived.WalkKit
import Derived.ProofKit
import Derived.OpenShut
import Derived.ShutString
import Derived.ChangeOld
import Derived.Below
import Derived.Deep.SlicePairs
namespace Go.Proofs.Qxb6608562a.fnNewDayFilesKeepsWhatItIsGiven
open Go.ChangeShapes Go.WideShapes Go.ChangeAt Go.RowKit Go.Deep
open Go.ChangeMaps (open_string shut_string)
set_option linter.unusedVariables false

theorem own : ownKnob Try.prog.godebug = none := by kernel_rfl
theorem laidOut : laidOutB Try.prog = true := by kernel_rfl
theorem cells39 : Try.prog.cellsOf 39 = 4 := by kernel_rfl
theorem cells9 : Try.prog.cellsOf 9 = 1 := by kernel_rfl
theorem cells5 : Try.prog.cellsOf 5 = 1 := by kernel_rfl
theorem cells3 : Try.prog.cellsOf 3 = 1 := by kernel_rfl

/-- element i of the dictionary, cell by cell -/
theorem open_dict {H : Type} {enc : TypeId × Value → H} {w : World} {base : Nat} {held : Bool} {fuel : Nat} {cs : List Value} {x : DataW H × List MemPlace} (h : DataW.trod enc Try.prog w base (fun _ => true) held fuel 22 cs = some x) :
    cs = [.slice none 0 0] ∨ ∃ (a : Addr) (len cap : Nat), cs = [.slice (some a) len cap] ∧ len ≤ cap ∧ cap ≤ maxLen ∧
      ∀ i, i < len → ∃ q : ByteArray × Int × Int × Int, (w.cell? (a.add (i * 4)) = some (.string q.1) ∧ w.cell? (a.add (i * 4 + 1)) = some (.int .u8 q.2.1) ∧ w.cell? (a.add (i * 4 + 2)) = some (.int .i64 q.2.2.1) ∧ w.cell? (a.add (i * 4 + 3)) = some (.int .i64 q.2.2.2)) ∧ q.1.size ≤ maxLen := by
  rcases open_slice Try.underlying22 h with ⟨h0, _⟩ | ⟨a, len, cap, m, n, D, Pl, rfl, hb, hl, hm, hmm, rfl, hx⟩
  · exact Or.inl h0
  right
  refine ⟨a, len, cap, rfl, hl, hm, fun i hi => ?_⟩
  simp only [if_true] at hmm
  obtain ⟨cs', h1, h2⟩ := hx i (by omega)
  rw [cells39] at h1
  obtain ⟨_, hlen, hcell⟩ := World.cells?_some h1
  obtain ⟨xs, k, hk, hxy, _, hxl, hf⟩ := DataW.trod_struct Try.underlying39 h2
  match xs, hxl, cs', hlen with
  | [y0, y1, y2, y3], _, [v0, v1, v2, v3], _ =>
    have g0 := hf 0 _ rfl
    have g1 := hf 1 _ rfl
    have g2 := hf 2 _ rfl
    have g3 := hf 3 _ rfl
    simp [cells9, cells5, cells3] at g0 g1 g2 g3
    have e0 := hcell 0 (by omega)
    have e1 := hcell 1 (by omega)
    have e2 := hcell 2 (by omega)
    have e3 := hcell 3 (by omega)
    rw [add_add] at e0 e1 e2 e3
    simp at e0 e1 e2 e3
    obtain ⟨s, hs, _, hsz⟩ := DataW.trod_string Try.underlying9 g0
    obtain ⟨i1, hi1, _⟩ := DataW.trod_int Try.underlying5 g1
    obtain ⟨i2, hi2, _⟩ := DataW.trod_int Try.underlying3 g2
    obtain ⟨i3, hi3, _⟩ := DataW.trod_int Try.underlying3 g3
    simp at hs hi1 hi2 hi3
    rw [hs] at e0
    rw [hi1] at e1
    rw [hi2] at e2
    rw [hi3] at e3
    exact ⟨(s, i1, i2, i3), ⟨e0, e1, e2, e3⟩, hsz⟩

theorem dict_of {w : World} {x : Addr} {len : Nat} {f : Nat → ByteArray × Int × Int × Int} (hc : ∀ i, i < len → (w.cell? (x.add (i * 4)) = some (.string (f i).1) ∧ w.cell? (x.add (i * 4 + 1)) = some (.int .u8 (f i).2.1) ∧ w.cell? (x.add (i * 4 + 2)) = some (.int .i64 (f i).2.2.1) ∧ w.cell? (x.add (i * 4 + 3)) = some (.int .i64 (f i).2.2.2)) ∧ (f i).1.size ≤ maxLen) :
    Day.Dict w (some x) len (fun i => (f i).1) (fun i => (f i).2.1) (fun i => (f i).2.2.1) (fun i => (f i).2.2.2) := by
  intro i hi
  have h := (hc i hi).1
  have h0 := (hc 0 (by omega)).1.1
  obtain ⟨b, off, spot⟩ := x
  have hspot : spot = none := by simpa [Addr.add] using World.cell?_spot h0
  subst hspot
  rw [Addr.add_lit, Addr.add_lit, Addr.add_lit, Addr.add_lit] at h
  exact ⟨b, off, rfl, h.1, h.2.1, h.2.2.1, h.2.2.2⟩

theorem walk (v0 v3 v4 v5 : ByteArray) (a0 : Option Addr) (len0 cap0 : Nat) (f : Nat → ByteArray × Int × Int × Int) (n : Int) (w : World) (w0 : v0.size ≤ maxLen) (w3 : v3.size ≤ maxLen) (w4 : v4.size ≤ maxLen) (w5 : v5.size ≤ maxLen) (hn : (Lit.int .i64 n).wf = true)
    (h : (a0 = none ∧ len0 = 0 ∧ cap0 = 0) ∨ ∃ x, a0 = some x ∧ len0 ≤ cap0 ∧ cap0 ≤ maxLen ∧
      ∀ i, i < len0 → (w.cell? (x.add (i * 4)) = some (.string (f i).1) ∧ w.cell? (x.add (i * 4 + 1)) = some (.int .u8 (f i).2.1) ∧ w.cell? (x.add (i * 4 + 2)) = some (.int .i64 (f i).2.2.1) ∧ w.cell? (x.add (i * 4 + 3)) = some (.int .i64 (f i).2.2.2)) ∧ (f i).1.size ≤ maxLen) :
    Calls Try.prog 3 #[.string v0, .slice a0 len0 cap0, .int .i64 n, .string v3, .string v4, .string v5] w fun e w' => e = .returned (.bool true) ∧ Below w.heap.size w w' := by
  have hb : -9223372036854775808 ≤ n ∧ n ≤ 9223372036854775807 := by simpa [Lit.wf, IntKind.min, IntKind.max, IntKind.bits, IntKind.signed] using hn
  rcases h with ⟨rfl, rfl, rfl⟩ | ⟨x, rfl, hl, hm, hc⟩
  · exact Day.law_walk v0 v3 v4 v5 none 0 0 (fun _ => ByteArray.empty) (fun _ => 0) (fun _ => 0) (fun _ => 0) n w w0 w3 w4 w5 (Nat.zero_le _) (fun i hi => absurd hi (by omega)) (fun i hi => absurd hi (by omega)) hb.1 hb.2
  · exact Day.law_walk v0 v3 v4 v5 (some x) len0 cap0 _ _ _ _ n w w0 w3 w4 w5 (Nat.le_trans hl hm) (fun i hi => (hc i hi).2) (dict_of hc) hb.1 hb.2

set_option maxRecDepth 100000 in
theorem lifted (os : Os) (started : os.Started) (H : Type) (enc : TypeId × Value → H) :
    ReturnsInHanded {} Try.checked os 3 .any (Rows.fnNewDayFilesKeepsWhatItIsGivenSpec.pre6 enc Try.prog Try.f3 Rows.fnNewDayFilesKeepsWhatItIsGivenRow.domain false) (Rows.fnNewDayFilesKeepsWhatItIsGivenSpec.post enc Try.prog Try.f3 false true false false) := by
  refine returnsInHanded_of_change (C := Try.checked) own started (by kernel_rfl) Try.func3
    (ChangeSpec.witness6 (enc := enc) (C := Try.checked) false ⟨#[], #[.string ByteArray.empty, .slice none 0 0, .int .i64 0, .string ByteArray.empty, .string ByteArray.empty, .string ByteArray.empty], []⟩ 8 (by kernel_rfl) (by kernel_rfl) (by kernel_rfl) (by kernel_rfl)) ?_
  intro W base args ds gs before hval0 hW hcnd _
  have hval : ∀ (j : Nat) t v, Try.f3.params[j]? = some t → args[j]? = some v → Value.okWide Try.prog W .any base t v := hval0
  have hW' := hW
  obtain ⟨p, q, hA0, hV, rfl, hfz, hnd⟩ := hW
  have hA : DataW.TrodAll enc Try.prog W 0 (fun _ => true) true Try.f3.params.toList args.toList ds p := hA0
  rw [Try.params3] at hA hval
  obtain ⟨v0, vs0, d0, ds0, p0, q0, hargs, rfl, rfl, h0, r0⟩ := trodAll_cons hA
  obtain ⟨v1, vs1, d1, ds1, p1, q1, rfl, rfl, rfl, h1, r1⟩ := trodAll_cons r0
  obtain ⟨v2, vs2, d2, ds2, p2, q2, rfl, rfl, rfl, h2, r2⟩ := trodAll_cons r1
  obtain ⟨v3, vs3, d3, ds3, p3, q3, rfl, rfl, rfl, h3, r3⟩ := trodAll_cons r2
  obtain ⟨v4, vs4, d4, ds4, p4, q4, rfl, rfl, rfl, h4, r4⟩ := trodAll_cons r3
  obtain ⟨v5, vs5, d5, ds5, p5, q5, rfl, rfl, rfl, h5, r5⟩ := trodAll_cons r4
  obtain ⟨rfl, rfl, rfl⟩ := trodAll_nil r5
  obtain rfl : args = #[v0, v1, v2, v3, v4, v5] := by cases args; simp_all
  obtain ⟨rfl, rfl⟩ := trodVars_none hV
  obtain ⟨a0, rfl, rfl, rfl, w0⟩ := open_string Try.underlying9 (hval 0 9 v0 rfl rfl) h0
  obtain ⟨a1, len1, cap1, rfl⟩ := okWide_slice Try.underlying22 (hval 1 22 v1 rfl rfl)
  have k1 := h1
  have lt1 : ∀ x ∈ p1, x.block < W.heap.size := by obtain ⟨m, hm⟩ := k1; exact DataW.trod_lt m _ _ _ hm
  obtain ⟨f, hd⟩ : ∃ f : Nat → ByteArray × Int × Int × Int, (a1 = none ∧ len1 = 0 ∧ cap1 = 0) ∨ ∃ x, a1 = some x ∧ len1 ≤ cap1 ∧ cap1 ≤ maxLen ∧
      ∀ i, i < len1 → (W.cell? (x.add (i * 4)) = some (.string (f i).1) ∧ W.cell? (x.add (i * 4 + 1)) = some (.int .u8 (f i).2.1) ∧ W.cell? (x.add (i * 4 + 2)) = some (.int .i64 (f i).2.2.1) ∧ W.cell? (x.add (i * 4 + 3)) = some (.int .i64 (f i).2.2.2)) ∧ (f i).1.size ≤ maxLen := by
    obtain ⟨fuel, hf⟩ := h1
    rcases open_dict hf with hcs | ⟨x, l, c, hcs, hl, hm, hcell⟩
    · simp [Value.cells] at hcs
      obtain ⟨rfl, rfl, rfl⟩ := hcs
      exact ⟨fun _ => (ByteArray.empty, 0, 0, 0), .inl ⟨rfl, rfl, rfl⟩⟩
    · simp [Value.cells] at hcs
      obtain ⟨rfl, rfl, rfl⟩ := hcs
      obtain ⟨f, hf2⟩ := choose_lt hcell
      exact ⟨f, .inr ⟨_, rfl, hl, hm, hf2⟩⟩
  obtain ⟨a2, rfl, rfl, rfl, w2⟩ := open_int Try.underlying2 (hval 2 2 v2 rfl rfl) h2
  obtain ⟨a3, rfl, rfl, rfl, w3⟩ := open_string Try.underlying9 (hval 3 9 v3 rfl rfl) h3
  obtain ⟨a4, rfl, rfl, rfl, w4⟩ := open_string Try.underlying9 (hval 4 9 v4 rfl rfl) h4
  obtain ⟨a5, rfl, rfl, rfl, w5⟩ := open_string Try.underlying9 (hval 5 9 v5 rfl rfl) h5
  clear hA0 hval0
  refine (walk a0 a3 a4 a5 a1 len1 cap1 f a2 W w0 w3 w4 w5 w2 hd).mono fun e W' ⟨he, bel⟩ => ?_
  subst he
  exact ⟨_, rfl, _, _, _, [], _, [], hW', trodAll_mk1 (shut_bool Try.underlying4 _), (trodAll_cons_mk (shut_string Try.underlying9 w0) (trodAll_cons_mk (Below.trod laidOut (by kernel_rfl) (of_decide_eq_true (by kernel_rfl)) k1 bel lt1) (trodAll_cons_mk (shut_int Try.underlying2 w2) (trodAll_cons_mk (shut_string Try.underlying9 w3) (trodAll_cons_mk (shut_string Try.underlying9 w4) (trodAll_cons_mk (shut_string Try.underlying9 w5) trodAll_mk0)))))), rfl, bel.frame _, fun h => by cases h⟩

theorem over : Rows.fnNewDayFilesKeepsWhatItIsGivenRow.holds Try.pinned (OpenSpec.ofChange Rows.fnNewDayFilesKeepsWhatItIsGivenSpec) :=
  OpenClaim.holds_of_wide 3 Try.f3 rfl rfl rfl rfl rfl rfl rfl ⟨rfl, rfl, rfl, rfl, rfl⟩ rfl rfl rfl rfl rfl (by kernel_rfl) Try.func3 (by kernel_rfl)
    (of_decide_eq_true (by kernel_rfl)) (by unfold Func.isWrapper; first | (rw [if_pos (by decide +kernel)]; kernel_rfl) | (rw [if_neg (by decide +kernel)]; exact ⟨rfl, rfl⟩))
    (fun os started H enc _ => lifted os started H enc)
end Go.Proofs.Qxb6608562a.fnNewDayFilesKeepsWhatItIsGiven
namespace Go.Proofs.Qxb6608562a
theorem newDayFiles_proved : Rows.FnNewDayFilesKeepsWhatItIsGivenSaid := fnNewDayFilesKeepsWhatItIsGiven.over
end Go.Proofs.Qxb6608562a

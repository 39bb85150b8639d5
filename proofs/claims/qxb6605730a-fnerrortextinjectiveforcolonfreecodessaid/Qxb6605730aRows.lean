/-
  No cell of these rows narrows 'for every input' (looked for: loops, veiled, ifaces, maps, wideKeys, modest, calm, conditions, laid).
  DERIVED. THE GIVEN ROWS OF THIS SEAT. 1 by the template 'for every input the law returns true; each argument reads behind the call as it read before'; 0 by the template 'total and deterministic' (their statements: Qxb6605730aTotals.lean).
  GIVEN WITH THE SEED: the statements are not yours to turn. If you find one false, say at which input.
  Laid BY PROGRAM, IN A SANDBOX (cutbox-rows.mjs): the forced cells as the released guide's own fill.sh prints them over the translation 0bd0e7dbcc1f6dfe… (all of the seat's roots in one cut). By AI agents, Wed Nov 11 2026. No macro, syntax, notation, axiom, sorry.
-/
import Derived.Test.Qxb6605730aChecked
import GoSem.Claim
import GoSem.ClaimJoined
import GoSem.ClaimMapViews
import Derived.JoinedTies
import Derived.KernelRfl
namespace Go.Proofs.Qxb6605730a
/- THE CELL 'sum', in the pinned program and in every row, IS THE sha256 OF THE DUMP (.gsa) THAT Qxb6605730aProg.lean LOADS. Nothing in Lean hashes anything: it is a label: what it is worth is what the hold of that sum in a sandbox is worth. -/
noncomputable def Try.pinned : Pinned := { name := "qxb6605730a", sum := "0bd0e7dbcc1f6dfe7a2d4095700eaebb4ed3d71e29f8d58352ab4bee048b9b97", checked := Try.checked }
namespace Rows
def none {H : Type} : Left H := { results := [], args := [] }

/-- 'zzlaws_internal_browsertest_b1.FnErrorTextInjectiveForColonFreeCodes': WHATEVER THE INPUT: true; the input reads as it did. -/
def fnErrorTextInjectiveForColonFreeCodesSpec : ChangeSpec := { name := "fnErrorTextInjectiveForColonFreeCodes", fn := fun _ => fun
  | [d1, d2, d3, d4] => { results := [.lit (.bool true)], args := [d1, d2, d3, d4] }
  | _ => none }
def fnErrorTextInjectiveForColonFreeCodesRow : OpenClaim := { program := "qxb6605730a", sum := "0bd0e7dbcc1f6dfe7a2d4095700eaebb4ed3d71e29f8d58352ab4bee048b9b97", func := "example.com/lachesis/lachesis/zzlaws_internal_browsertest_b1.FnErrorTextInjectiveForColonFreeCodes", spec := "fnErrorTextInjectiveForColonFreeCodes", apart := false }
def FnErrorTextInjectiveForColonFreeCodesSaid : Prop := fnErrorTextInjectiveForColonFreeCodesRow.holds Try.pinned (OpenSpec.ofChange fnErrorTextInjectiveForColonFreeCodesSpec)

/-- ITS FALSE NEIGHBOUR: 'it returns false'. Refute it at one input. -/
def fnErrorTextInjectiveForColonFreeCodesWrong : ChangeSpec := { name := "fnErrorTextInjectiveForColonFreeCodes", fn := fun _ => fun
  | [d1, d2, d3, d4] => { results := [.lit (.bool false)], args := [d1, d2, d3, d4] }
  | _ => none }
def FnErrorTextInjectiveForColonFreeCodesWrongFalsely : Prop := fnErrorTextInjectiveForColonFreeCodesRow.holds Try.pinned (OpenSpec.ofChange fnErrorTextInjectiveForColonFreeCodesWrong)

end Rows
end Go.Proofs.Qxb6605730a

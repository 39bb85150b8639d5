/-
  No cell of these rows narrows 'for every input' (looked for: loops, veiled, ifaces, maps, wideKeys, modest, calm, conditions, laid).
  DERIVED. THE GIVEN ROWS OF THIS SEAT. 1 by the template 'for every input the law returns true; each argument reads behind the call as it read before'; 0 by the template 'total and deterministic' (their statements: Qxb6608562aTotals.lean).
  GIVEN WITH THE SEED: the statements are not yours to turn. If you find one false, say at which input.
  Laid BY PROGRAM, IN A SANDBOX (cutbox-rows.mjs): the forced cells as the released guide's own fill.sh prints them over the translation a0b6d570f69ccd98… (all of the seat's roots in one cut). By AI agents, Wed Nov 11 2026. No macro, syntax, notation, axiom, sorry.
-/
import Derived.Test.Qxb6608562aChecked
import GoSem.Claim
import GoSem.ClaimJoined
import GoSem.ClaimMapViews
import Derived.JoinedTies
import Derived.KernelRfl
namespace Go.Proofs.Qxb6608562a
/- THE CELL 'sum', in the pinned program and in every row, IS THE sha256 OF THE DUMP (.gsa) THAT Qxb6608562aProg.lean LOADS. Nothing in Lean hashes anything: it is a label: what it is worth is what the hold of that sum in a sandbox is worth. -/
noncomputable def Try.pinned : Pinned := { name := "qxb6608562a", sum := "a0b6d570f69ccd98c816ae6ea27e6442e99eff510d2a7deb3ab025d0088ea91c", checked := Try.checked }
namespace Rows
def none {H : Type} : Left H := { results := [], args := [] }

/-- 'zzlaws_pkg_exchange_b1.FnNewDayFilesKeepsWhatItIsGiven': WHATEVER THE INPUT: true; the input reads as it did. -/
def fnNewDayFilesKeepsWhatItIsGivenSpec : ChangeSpec := { name := "fnNewDayFilesKeepsWhatItIsGiven", fn := fun _ => fun
  | [d1, d2, d3, d4, d5, d6] => { results := [.lit (.bool true)], args := [d1, d2, d3, d4, d5, d6] }
  | _ => none }
def fnNewDayFilesKeepsWhatItIsGivenRow : OpenClaim := { program := "qxb6608562a", sum := "a0b6d570f69ccd98c816ae6ea27e6442e99eff510d2a7deb3ab025d0088ea91c", func := "example.com/zhaomu/zhaomu/zzlaws_pkg_exchange_b1.FnNewDayFilesKeepsWhatItIsGiven", spec := "fnNewDayFilesKeepsWhatItIsGiven", apart := false }
def FnNewDayFilesKeepsWhatItIsGivenSaid : Prop := fnNewDayFilesKeepsWhatItIsGivenRow.holds Try.pinned (OpenSpec.ofChange fnNewDayFilesKeepsWhatItIsGivenSpec)

/-- ITS FALSE NEIGHBOUR: 'it returns false'. Refute it at one input. -/
def fnNewDayFilesKeepsWhatItIsGivenWrong : ChangeSpec := { name := "fnNewDayFilesKeepsWhatItIsGiven", fn := fun _ => fun
  | [d1, d2, d3, d4, d5, d6] => { results := [.lit (.bool false)], args := [d1, d2, d3, d4, d5, d6] }
  | _ => none }
def FnNewDayFilesKeepsWhatItIsGivenWrongFalsely : Prop := fnNewDayFilesKeepsWhatItIsGivenRow.holds Try.pinned (OpenSpec.ofChange fnNewDayFilesKeepsWhatItIsGivenWrong)

end Rows
end Go.Proofs.Qxb6608562a

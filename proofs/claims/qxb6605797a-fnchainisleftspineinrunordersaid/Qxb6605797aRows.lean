/-
  No cell of these rows narrows 'for every input' (looked for: loops, veiled, ifaces, maps, wideKeys, modest, calm, conditions, laid).
  DERIVED. THE GIVEN ROWS OF THIS SEAT. 2 by the template 'for every input the law returns true; each argument reads behind the call as it read before'; 0 by the template 'total and deterministic' (their statements: Qxb6605797aTotals.lean).
  GIVEN WITH THE SEED: the statements are not yours to turn. If you find one false, say at which input.
  Laid BY PROGRAM, IN A SANDBOX (cutbox-rows.mjs): the forced cells as the released guide's own fill.sh prints them over the translation 6e79068dcba12281… (all of the seat's roots in one cut). By AI agents, Wed Nov 11 2026. No macro, syntax, notation, axiom, sorry.
-/
import Derived.Test.Qxb6605797aChecked
import GoSem.Claim
import GoSem.ClaimJoined
import GoSem.ClaimMapViews
import Derived.JoinedTies
import Derived.KernelRfl
namespace Go.Proofs.Qxb6605797a
/- THE CELL 'sum', in the pinned program and in every row, IS THE sha256 OF THE DUMP (.gsa) THAT Qxb6605797aProg.lean LOADS. Nothing in Lean hashes anything: it is a label: what it is worth is what the hold of that sum in a sandbox is worth. -/
noncomputable def Try.pinned : Pinned := { name := "qxb6605797a", sum := "6e79068dcba122811100de49751fda066798f7e152f4fef7ae50bf0641008325", checked := Try.checked }
namespace Rows
def none {H : Type} : Left H := { results := [], args := [] }

/-- 'zzlaws_check_b1.FnChainIsLeftSpineInRunOrder': WHATEVER THE INPUT: true; the input reads as it did. -/
def fnChainIsLeftSpineInRunOrderSpec : ChangeSpec := { name := "fnChainIsLeftSpineInRunOrder", fn := fun _ => fun
  | [d1, d2, d3] => { results := [.lit (.bool true)], args := [d1, d2, d3] }
  | _ => none }
def fnChainIsLeftSpineInRunOrderRow : OpenClaim := { program := "qxb6605797a", sum := "6e79068dcba122811100de49751fda066798f7e152f4fef7ae50bf0641008325", func := "example.com/hakoniwa/hakoniwa/zzlaws_check_b1.FnChainIsLeftSpineInRunOrder", spec := "fnChainIsLeftSpineInRunOrder", unfollowed := true, recurses := true, apart := false }
def FnChainIsLeftSpineInRunOrderSaid : Prop := fnChainIsLeftSpineInRunOrderRow.holds Try.pinned (OpenSpec.ofChange fnChainIsLeftSpineInRunOrderSpec)

/-- ITS FALSE NEIGHBOUR: 'it returns false'. Refute it at one input. -/
def fnChainIsLeftSpineInRunOrderWrong : ChangeSpec := { name := "fnChainIsLeftSpineInRunOrder", fn := fun _ => fun
  | [d1, d2, d3] => { results := [.lit (.bool false)], args := [d1, d2, d3] }
  | _ => none }
def FnChainIsLeftSpineInRunOrderWrongFalsely : Prop := fnChainIsLeftSpineInRunOrderRow.holds Try.pinned (OpenSpec.ofChange fnChainIsLeftSpineInRunOrderWrong)

/-- 'zzlaws_check_b1.FnChainStartIsInnermostLeftOperand': WHATEVER THE INPUT: true; the input reads as it did. -/
def fnChainStartIsInnermostLeftOperandSpec : ChangeSpec := { name := "fnChainStartIsInnermostLeftOperand", fn := fun _ => fun
  | [d1, d2, d3] => { results := [.lit (.bool true)], args := [d1, d2, d3] }
  | _ => none }
def fnChainStartIsInnermostLeftOperandRow : OpenClaim := { program := "qxb6605797a", sum := "6e79068dcba122811100de49751fda066798f7e152f4fef7ae50bf0641008325", func := "example.com/hakoniwa/hakoniwa/zzlaws_check_b1.FnChainStartIsInnermostLeftOperand", spec := "fnChainStartIsInnermostLeftOperand", unfollowed := true, recurses := true, apart := false }
def FnChainStartIsInnermostLeftOperandSaid : Prop := fnChainStartIsInnermostLeftOperandRow.holds Try.pinned (OpenSpec.ofChange fnChainStartIsInnermostLeftOperandSpec)

/-- ITS FALSE NEIGHBOUR: 'it returns false'. Refute it at one input. -/
def fnChainStartIsInnermostLeftOperandWrong : ChangeSpec := { name := "fnChainStartIsInnermostLeftOperand", fn := fun _ => fun
  | [d1, d2, d3] => { results := [.lit (.bool false)], args := [d1, d2, d3] }
  | _ => none }
def FnChainStartIsInnermostLeftOperandWrongFalsely : Prop := fnChainStartIsInnermostLeftOperandRow.holds Try.pinned (OpenSpec.ofChange fnChainStartIsInnermostLeftOperandWrong)

end Rows
end Go.Proofs.Qxb6605797a

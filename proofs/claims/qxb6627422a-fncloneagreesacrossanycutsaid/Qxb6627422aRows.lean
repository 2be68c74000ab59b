/-
  No cell of these rows narrows 'for every input' (looked for: loops, veiled, ifaces, maps, wideKeys, modest, calm, conditions, laid).
  DERIVED. THE GIVEN ROWS OF THIS SEAT. 2 by the template 'for every input the law returns true; each argument reads behind the call as it read before'; 0 by the template 'total and deterministic' (their statements: Qxb6627422aTotals.lean).
  GIVEN WITH THE SEED: the statements are not yours to turn. If you find one false, say at which input.
  Laid BY PROGRAM, IN A SANDBOX (cutbox-rows.mjs): the forced cells as the released guide's own fill.sh prints them over the translation c461fbcbfab91dd0… (all of the seat's roots in one cut). By AI agents, Wed Nov 11 2026. No macro, syntax, notation, axiom, sorry.
-/
import Derived.Test.Qxb6627422aChecked
import GoSem.Claim
import GoSem.ClaimJoined
import GoSem.ClaimMapViews
import Derived.JoinedTies
import Derived.KernelRfl
namespace Go.Proofs.Qxb6627422a
/- THE CELL 'sum', in the pinned program and in every row, IS THE sha256 OF THE DUMP (.gsa) THAT Qxb6627422aProg.lean LOADS. Nothing in Lean hashes anything: it is a label: what it is worth is what the hold of that sum in a sandbox is worth. -/
noncomputable def Try.pinned : Pinned := { name := "qxb6627422a", sum := "c461fbcbfab91dd0140d9eff2487442a00a5299540d1a60ce737e92baab789e7", checked := Try.checked }
namespace Rows
def none {H : Type} : Left H := { results := [], args := [] }

/-- 'zzlaws_pkg_issue_b1.FnCloneTwiceIsIndependentCopy': WHATEVER THE INPUT: true; the input reads as it did. -/
def fnCloneTwiceIsIndependentCopySpec : ChangeSpec := { name := "fnCloneTwiceIsIndependentCopy", fn := fun _ => fun
  | [d] => { results := [.lit (.bool true)], args := [d] }
  | _ => none }
def fnCloneTwiceIsIndependentCopyRow : OpenClaim := { program := "qxb6627422a", sum := "c461fbcbfab91dd0140d9eff2487442a00a5299540d1a60ce737e92baab789e7", func := "example.com/countersign/countersign/zzlaws_pkg_issue_b1.FnCloneTwiceIsIndependentCopy", spec := "fnCloneTwiceIsIndependentCopy", apart := false }
def FnCloneTwiceIsIndependentCopySaid : Prop := fnCloneTwiceIsIndependentCopyRow.holds Try.pinned (OpenSpec.ofChange fnCloneTwiceIsIndependentCopySpec)

/-- ITS FALSE NEIGHBOUR: 'it returns false'. Refute it at one input. -/
def fnCloneTwiceIsIndependentCopyWrong : ChangeSpec := { name := "fnCloneTwiceIsIndependentCopy", fn := fun _ => fun
  | [d] => { results := [.lit (.bool false)], args := [d] }
  | _ => none }
def FnCloneTwiceIsIndependentCopyWrongFalsely : Prop := fnCloneTwiceIsIndependentCopyRow.holds Try.pinned (OpenSpec.ofChange fnCloneTwiceIsIndependentCopyWrong)

/-- 'zzlaws_pkg_issue_b1.FnCloneAgreesAcrossAnyCut': WHATEVER THE INPUT: true; the input reads as it did. -/
def fnCloneAgreesAcrossAnyCutSpec : ChangeSpec := { name := "fnCloneAgreesAcrossAnyCut", fn := fun _ => fun
  | [d1, d2] => { results := [.lit (.bool true)], args := [d1, d2] }
  | _ => none }
def fnCloneAgreesAcrossAnyCutRow : OpenClaim := { program := "qxb6627422a", sum := "c461fbcbfab91dd0140d9eff2487442a00a5299540d1a60ce737e92baab789e7", func := "example.com/countersign/countersign/zzlaws_pkg_issue_b1.FnCloneAgreesAcrossAnyCut", spec := "fnCloneAgreesAcrossAnyCut", apart := false }
def FnCloneAgreesAcrossAnyCutSaid : Prop := fnCloneAgreesAcrossAnyCutRow.holds Try.pinned (OpenSpec.ofChange fnCloneAgreesAcrossAnyCutSpec)

/-- ITS FALSE NEIGHBOUR: 'it returns false'. Refute it at one input. -/
def fnCloneAgreesAcrossAnyCutWrong : ChangeSpec := { name := "fnCloneAgreesAcrossAnyCut", fn := fun _ => fun
  | [d1, d2] => { results := [.lit (.bool false)], args := [d1, d2] }
  | _ => none }
def FnCloneAgreesAcrossAnyCutWrongFalsely : Prop := fnCloneAgreesAcrossAnyCutRow.holds Try.pinned (OpenSpec.ofChange fnCloneAgreesAcrossAnyCutWrong)

end Rows
end Go.Proofs.Qxb6627422a

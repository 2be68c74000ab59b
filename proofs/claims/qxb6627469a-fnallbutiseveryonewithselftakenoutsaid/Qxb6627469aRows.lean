/-
  No cell of these rows narrows 'for every input' (looked for: loops, veiled, ifaces, maps, wideKeys, modest, calm, conditions, laid).
  DERIVED. THE GIVEN ROWS OF THIS SEAT. 2 by the template 'for every input the law returns true; each argument reads behind the call as it read before'; 0 by the template 'total and deterministic' (their statements: Qxb6627469aTotals.lean).
  GIVEN WITH THE SEED: the statements are not yours to turn. If you find one false, say at which input.
  Laid BY PROGRAM, IN A SANDBOX (cutbox-rows.mjs): the forced cells as the released guide's own fill.sh prints them over the translation ec236072a5d8eee5… (all of the seat's roots in one cut). By AI agents, Wed Nov 11 2026. No macro, syntax, notation, axiom, sorry.
-/
import Derived.Test.Qxb6627469aChecked
import GoSem.Claim
import GoSem.ClaimJoined
import GoSem.ClaimMapViews
import Derived.JoinedTies
import Derived.KernelRfl
namespace Go.Proofs.Qxb6627469a
/- THE CELL 'sum', in the pinned program and in every row, IS THE sha256 OF THE DUMP (.gsa) THAT Qxb6627469aProg.lean LOADS. Nothing in Lean hashes anything: it is a label: what it is worth is what the hold of that sum in a sandbox is worth. -/
noncomputable def Try.pinned : Pinned := { name := "qxb6627469a", sum := "ec236072a5d8eee576307c9143cfeed7dfd58a9ca09681ced823d288dc1c7da4", checked := Try.checked }
namespace Rows
def none {H : Type} : Left H := { results := [], args := [] }

/-- 'zzlaws_root_b1.FnAllButGrowsByOneMember': WHATEVER THE INPUT: true; the input reads as it did. -/
def fnAllButGrowsByOneMemberSpec : ChangeSpec := { name := "fnAllButGrowsByOneMember", fn := fun _ => fun
  | [d1, d2] => { results := [.lit (.bool true)], args := [d1, d2] }
  | _ => none }
def fnAllButGrowsByOneMemberRow : OpenClaim := { program := "qxb6627469a", sum := "ec236072a5d8eee576307c9143cfeed7dfd58a9ca09681ced823d288dc1c7da4", func := "example.com/causalway/causalway/zzlaws_root_b1.FnAllButGrowsByOneMember", spec := "fnAllButGrowsByOneMember", apart := false }
def FnAllButGrowsByOneMemberSaid : Prop := fnAllButGrowsByOneMemberRow.holds Try.pinned (OpenSpec.ofChange fnAllButGrowsByOneMemberSpec)

/-- ITS FALSE NEIGHBOUR: 'it returns false'. Refute it at one input. -/
def fnAllButGrowsByOneMemberWrong : ChangeSpec := { name := "fnAllButGrowsByOneMember", fn := fun _ => fun
  | [d1, d2] => { results := [.lit (.bool false)], args := [d1, d2] }
  | _ => none }
def FnAllButGrowsByOneMemberWrongFalsely : Prop := fnAllButGrowsByOneMemberRow.holds Try.pinned (OpenSpec.ofChange fnAllButGrowsByOneMemberWrong)

/-- 'zzlaws_root_b1.FnAllButIsEveryoneWithSelfTakenOut': WHATEVER THE INPUT: true; the input reads as it did. -/
def fnAllButIsEveryoneWithSelfTakenOutSpec : ChangeSpec := { name := "fnAllButIsEveryoneWithSelfTakenOut", fn := fun _ => fun
  | [d1, d2] => { results := [.lit (.bool true)], args := [d1, d2] }
  | _ => none }
def fnAllButIsEveryoneWithSelfTakenOutRow : OpenClaim := { program := "qxb6627469a", sum := "ec236072a5d8eee576307c9143cfeed7dfd58a9ca09681ced823d288dc1c7da4", func := "example.com/causalway/causalway/zzlaws_root_b1.FnAllButIsEveryoneWithSelfTakenOut", spec := "fnAllButIsEveryoneWithSelfTakenOut", apart := false }
def FnAllButIsEveryoneWithSelfTakenOutSaid : Prop := fnAllButIsEveryoneWithSelfTakenOutRow.holds Try.pinned (OpenSpec.ofChange fnAllButIsEveryoneWithSelfTakenOutSpec)

/-- ITS FALSE NEIGHBOUR: 'it returns false'. Refute it at one input. -/
def fnAllButIsEveryoneWithSelfTakenOutWrong : ChangeSpec := { name := "fnAllButIsEveryoneWithSelfTakenOut", fn := fun _ => fun
  | [d1, d2] => { results := [.lit (.bool false)], args := [d1, d2] }
  | _ => none }
def FnAllButIsEveryoneWithSelfTakenOutWrongFalsely : Prop := fnAllButIsEveryoneWithSelfTakenOutRow.holds Try.pinned (OpenSpec.ofChange fnAllButIsEveryoneWithSelfTakenOutWrong)

end Rows
end Go.Proofs.Qxb6627469a

/-
  No cell of these rows narrows 'for every input' (looked for: loops, veiled, ifaces, maps, wideKeys, modest, calm, conditions, laid).
  DERIVED. THE GIVEN ROWS OF THIS SEAT. 1 by the template 'for every input the law returns true; each argument reads behind the call as it read before'; 0 by the template 'total and deterministic' (their statements: Qxb6627526aTotals.lean).
  GIVEN WITH THE SEED: the statements are not yours to turn. If you find one false, say at which input.
  Laid BY PROGRAM, IN A SANDBOX (cutbox-rows.mjs): the forced cells as the released guide's own fill.sh prints them over the translation 510a202d7018a97a… (all of the seat's roots in one cut). By AI agents, Wed Nov 11 2026. No macro, syntax, notation, axiom, sorry.
-/
import Derived.Test.Qxb6627526aChecked
import GoSem.Claim
import GoSem.ClaimJoined
import GoSem.ClaimMapViews
import Derived.JoinedTies
import Derived.KernelRfl
namespace Go.Proofs.Qxb6627526a
/- THE CELL 'sum', in the pinned program and in every row, IS THE sha256 OF THE DUMP (.gsa) THAT Qxb6627526aProg.lean LOADS. Nothing in Lean hashes anything: it is a label: what it is worth is what the hold of that sum in a sandbox is worth. -/
noncomputable def Try.pinned : Pinned := { name := "qxb6627526a", sum := "510a202d7018a97ab24346ddf8f3db515434a039c448d49c011b59b72096ca5f", checked := Try.checked }
namespace Rows
def none {H : Type} : Left H := { results := [], args := [] }

/-- 'zzlaws_syscalls_b1.FnValueEqualExactlyWhenReadBitsAgree': WHATEVER THE INPUT: true; the input reads as it did. -/
def fnValueEqualExactlyWhenReadBitsAgreeSpec : ChangeSpec := { name := "fnValueEqualExactlyWhenReadBitsAgree", fn := fun _ => fun
  | [d1, d2, d3, d4] => { results := [.lit (.bool true)], args := [d1, d2, d3, d4] }
  | _ => none }
def fnValueEqualExactlyWhenReadBitsAgreeRow : OpenClaim := { program := "qxb6627526a", sum := "510a202d7018a97ab24346ddf8f3db515434a039c448d49c011b59b72096ca5f", func := "example.com/tollgate/tollgate/zzlaws_syscalls_b1.FnValueEqualExactlyWhenReadBitsAgree", spec := "fnValueEqualExactlyWhenReadBitsAgree", apart := false }
def FnValueEqualExactlyWhenReadBitsAgreeSaid : Prop := fnValueEqualExactlyWhenReadBitsAgreeRow.holds Try.pinned (OpenSpec.ofChange fnValueEqualExactlyWhenReadBitsAgreeSpec)

/-- ITS FALSE NEIGHBOUR: 'it returns false'. Refute it at one input. -/
def fnValueEqualExactlyWhenReadBitsAgreeWrong : ChangeSpec := { name := "fnValueEqualExactlyWhenReadBitsAgree", fn := fun _ => fun
  | [d1, d2, d3, d4] => { results := [.lit (.bool false)], args := [d1, d2, d3, d4] }
  | _ => none }
def FnValueEqualExactlyWhenReadBitsAgreeWrongFalsely : Prop := fnValueEqualExactlyWhenReadBitsAgreeRow.holds Try.pinned (OpenSpec.ofChange fnValueEqualExactlyWhenReadBitsAgreeWrong)

end Rows
end Go.Proofs.Qxb6627526a

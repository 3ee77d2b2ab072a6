/-
  No cell of these rows narrows 'for every input' (looked for: loops, veiled, ifaces, maps, wideKeys, modest, calm, conditions, laid).
  DERIVED. THE GIVEN ROWS OF THIS SEAT. 1 by the template 'for every input the law returns true; each argument reads behind the call as it read before'; 0 by the template 'total and deterministic' (their statements: Qxb6614817aTotals.lean).
  GIVEN WITH THE SEED: the statements are not yours to turn. If you find one false, say at which input.
  Laid BY PROGRAM, IN A SANDBOX (cutbox-rows.mjs): the forced cells as the released guide's own fill.sh prints them over the translation 6d8d9ebcc7d36908… (all of the seat's roots in one cut). By AI agents, Wed Nov 11 2026. No macro, syntax, notation, axiom, sorry.
-/
import Derived.Test.Qxb6614817aChecked
import GoSem.Claim
import GoSem.ClaimJoined
import GoSem.ClaimMapViews
import Derived.JoinedTies
import Derived.KernelRfl
namespace Go.Proofs.Qxb6614817a
/- THE CELL 'sum', in the pinned program and in every row, IS THE sha256 OF THE DUMP (.gsa) THAT Qxb6614817aProg.lean LOADS. Nothing in Lean hashes anything: it is a label: what it is worth is what the hold of that sum in a sandbox is worth. -/
noncomputable def Try.pinned : Pinned := { name := "qxb6614817a", sum := "6d8d9ebcc7d36908b3861eb55bc217b56f95b5b0ac1c3343f02e4e11fc0e7107", checked := Try.checked }
namespace Rows
def none {H : Type} : Left H := { results := [], args := [] }

/-- 'zzlaws_root_b1.FnClampedDecimalGoesToTheEndOfItsSign': WHATEVER THE INPUT: true; the input reads as it did. -/
def fnClampedDecimalGoesToTheEndOfItsSignSpec : ChangeSpec := { name := "fnClampedDecimalGoesToTheEndOfItsSign", fn := fun _ => fun
  | [d1, d2, d3] => { results := [.lit (.bool true)], args := [d1, d2, d3] }
  | _ => none }
def fnClampedDecimalGoesToTheEndOfItsSignRow : OpenClaim := { program := "qxb6614817a", sum := "6d8d9ebcc7d36908b3861eb55bc217b56f95b5b0ac1c3343f02e4e11fc0e7107", func := "example.com/rowguard/rowguard/zzlaws_root_b1.FnClampedDecimalGoesToTheEndOfItsSign", spec := "fnClampedDecimalGoesToTheEndOfItsSign", apart := false }
def FnClampedDecimalGoesToTheEndOfItsSignSaid : Prop := fnClampedDecimalGoesToTheEndOfItsSignRow.holds Try.pinned (OpenSpec.ofChange fnClampedDecimalGoesToTheEndOfItsSignSpec)

/-- ITS FALSE NEIGHBOUR: 'it returns false'. Refute it at one input. -/
def fnClampedDecimalGoesToTheEndOfItsSignWrong : ChangeSpec := { name := "fnClampedDecimalGoesToTheEndOfItsSign", fn := fun _ => fun
  | [d1, d2, d3] => { results := [.lit (.bool false)], args := [d1, d2, d3] }
  | _ => none }
def FnClampedDecimalGoesToTheEndOfItsSignWrongFalsely : Prop := fnClampedDecimalGoesToTheEndOfItsSignRow.holds Try.pinned (OpenSpec.ofChange fnClampedDecimalGoesToTheEndOfItsSignWrong)

end Rows
end Go.Proofs.Qxb6614817a

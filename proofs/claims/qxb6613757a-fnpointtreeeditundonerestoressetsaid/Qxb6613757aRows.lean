/-
  No cell of these rows narrows 'for every input' (looked for: loops, veiled, ifaces, maps, wideKeys, modest, calm, conditions, laid).
  DERIVED. THE GIVEN ROWS OF THIS SEAT. 5 by the template 'for every input the law returns true; each argument reads behind the call as it read before'; 0 by the template 'total and deterministic' (their statements: Qxb6613757aTotals.lean).
  GIVEN WITH THE SEED: the statements are not yours to turn. If you find one false, say at which input.
  Laid BY PROGRAM, IN A SANDBOX (cutbox-rows.mjs): the forced cells as the released guide's own fill.sh prints them over the translation a16b79804fe6bc7c… (all of the seat's roots in one cut). By AI agents, Wed Nov 11 2026. No macro, syntax, notation, axiom, sorry.
-/
import Derived.Test.Qxb6613757aChecked
import GoSem.Claim
import GoSem.ClaimJoined
import GoSem.ClaimMapViews
import Derived.JoinedTies
import Derived.KernelRfl
namespace Go.Proofs.Qxb6613757a
/- THE CELL 'sum', in the pinned program and in every row, IS THE sha256 OF THE DUMP (.gsa) THAT Qxb6613757aProg.lean LOADS. Nothing in Lean hashes anything: it is a label: what it is worth is what the hold of that sum in a sandbox is worth. -/
noncomputable def Try.pinned : Pinned := { name := "qxb6613757a", sum := "a16b79804fe6bc7c6c24064432ba36e9133f43e761d873a7582c4f95162a982a", checked := Try.checked }
namespace Rows
def none {H : Type} : Left H := { results := [], args := [] }

/-- 'zzlaws_root_b1.FnCandidateOrdersByRankThenID': WHATEVER THE INPUT: true; the input reads as it did. -/
def fnCandidateOrdersByRankThenIDSpec : ChangeSpec := { name := "fnCandidateOrdersByRankThenID", fn := fun _ => fun
  | [d1, d2, d3, d4] => { results := [.lit (.bool true)], args := [d1, d2, d3, d4] }
  | _ => none }
def fnCandidateOrdersByRankThenIDRow : OpenClaim := { program := "qxb6613757a", sum := "a16b79804fe6bc7c6c24064432ba36e9133f43e761d873a7582c4f95162a982a", func := "example.com/ringmark/ringmark/zzlaws_root_b1.FnCandidateOrdersByRankThenID", spec := "fnCandidateOrdersByRankThenID", apart := false }
def FnCandidateOrdersByRankThenIDSaid : Prop := fnCandidateOrdersByRankThenIDRow.holds Try.pinned (OpenSpec.ofChange fnCandidateOrdersByRankThenIDSpec)

/-- ITS FALSE NEIGHBOUR: 'it returns false'. Refute it at one input. -/
def fnCandidateOrdersByRankThenIDWrong : ChangeSpec := { name := "fnCandidateOrdersByRankThenID", fn := fun _ => fun
  | [d1, d2, d3, d4] => { results := [.lit (.bool false)], args := [d1, d2, d3, d4] }
  | _ => none }
def FnCandidateOrdersByRankThenIDWrongFalsely : Prop := fnCandidateOrdersByRankThenIDRow.holds Try.pinned (OpenSpec.ofChange fnCandidateOrdersByRankThenIDWrong)

/-- 'zzlaws_root_b1.FnCandidateNextPairIsNextNumber': WHATEVER THE INPUT: true; the input reads as it did. -/
def fnCandidateNextPairIsNextNumberSpec : ChangeSpec := { name := "fnCandidateNextPairIsNextNumber", fn := fun _ => fun
  | [d1, d2] => { results := [.lit (.bool true)], args := [d1, d2] }
  | _ => none }
def fnCandidateNextPairIsNextNumberRow : OpenClaim := { program := "qxb6613757a", sum := "a16b79804fe6bc7c6c24064432ba36e9133f43e761d873a7582c4f95162a982a", func := "example.com/ringmark/ringmark/zzlaws_root_b1.FnCandidateNextPairIsNextNumber", spec := "fnCandidateNextPairIsNextNumber", apart := false }
def FnCandidateNextPairIsNextNumberSaid : Prop := fnCandidateNextPairIsNextNumberRow.holds Try.pinned (OpenSpec.ofChange fnCandidateNextPairIsNextNumberSpec)

/-- ITS FALSE NEIGHBOUR: 'it returns false'. Refute it at one input. -/
def fnCandidateNextPairIsNextNumberWrong : ChangeSpec := { name := "fnCandidateNextPairIsNextNumber", fn := fun _ => fun
  | [d1, d2] => { results := [.lit (.bool false)], args := [d1, d2] }
  | _ => none }
def FnCandidateNextPairIsNextNumberWrongFalsely : Prop := fnCandidateNextPairIsNextNumberRow.holds Try.pinned (OpenSpec.ofChange fnCandidateNextPairIsNextNumberWrong)

/-- 'zzlaws_root_b1.FnSharerKeyFollowsSeedXorSlot': WHATEVER THE INPUT: true; the input reads as it did. -/
def fnSharerKeyFollowsSeedXorSlotSpec : ChangeSpec := { name := "fnSharerKeyFollowsSeedXorSlot", fn := fun _ => fun
  | [d1, d2, d3, d4, d5, d6, d7] => { results := [.lit (.bool true)], args := [d1, d2, d3, d4, d5, d6, d7] }
  | _ => none }
def fnSharerKeyFollowsSeedXorSlotRow : OpenClaim := { program := "qxb6613757a", sum := "a16b79804fe6bc7c6c24064432ba36e9133f43e761d873a7582c4f95162a982a", func := "example.com/ringmark/ringmark/zzlaws_root_b1.FnSharerKeyFollowsSeedXorSlot", spec := "fnSharerKeyFollowsSeedXorSlot", apart := false }
def FnSharerKeyFollowsSeedXorSlotSaid : Prop := fnSharerKeyFollowsSeedXorSlotRow.holds Try.pinned (OpenSpec.ofChange fnSharerKeyFollowsSeedXorSlotSpec)

/-- ITS FALSE NEIGHBOUR: 'it returns false'. Refute it at one input. -/
def fnSharerKeyFollowsSeedXorSlotWrong : ChangeSpec := { name := "fnSharerKeyFollowsSeedXorSlot", fn := fun _ => fun
  | [d1, d2, d3, d4, d5, d6, d7] => { results := [.lit (.bool false)], args := [d1, d2, d3, d4, d5, d6, d7] }
  | _ => none }
def FnSharerKeyFollowsSeedXorSlotWrongFalsely : Prop := fnSharerKeyFollowsSeedXorSlotRow.holds Try.pinned (OpenSpec.ofChange fnSharerKeyFollowsSeedXorSlotWrong)

/-- 'zzlaws_root_b1.FnPointTreeEditedMatchesSetModel': WHATEVER THE INPUT: true; the input reads as it did. -/
def fnPointTreeEditedMatchesSetModelSpec : ChangeSpec := { name := "fnPointTreeEditedMatchesSetModel", fn := fun _ => fun
  | [d1, d2, d3] => { results := [.lit (.bool true)], args := [d1, d2, d3] }
  | _ => none }
def fnPointTreeEditedMatchesSetModelRow : OpenClaim := { program := "qxb6613757a", sum := "a16b79804fe6bc7c6c24064432ba36e9133f43e761d873a7582c4f95162a982a", func := "example.com/ringmark/ringmark/zzlaws_root_b1.FnPointTreeEditedMatchesSetModel", spec := "fnPointTreeEditedMatchesSetModel", inPlace := ["slices.overlaps[example.com/ringmark/ringmark.treeChild]"], unfollowed := true, recurses := true, apart := false }
def FnPointTreeEditedMatchesSetModelSaid : Prop := fnPointTreeEditedMatchesSetModelRow.holds Try.pinned (OpenSpec.ofChange fnPointTreeEditedMatchesSetModelSpec)

/-- ITS FALSE NEIGHBOUR: 'it returns false'. Refute it at one input. -/
def fnPointTreeEditedMatchesSetModelWrong : ChangeSpec := { name := "fnPointTreeEditedMatchesSetModel", fn := fun _ => fun
  | [d1, d2, d3] => { results := [.lit (.bool false)], args := [d1, d2, d3] }
  | _ => none }
def FnPointTreeEditedMatchesSetModelWrongFalsely : Prop := fnPointTreeEditedMatchesSetModelRow.holds Try.pinned (OpenSpec.ofChange fnPointTreeEditedMatchesSetModelWrong)

/-- 'zzlaws_root_b1.FnPointTreeEditUndoneRestoresSet': WHATEVER THE INPUT: true; the input reads as it did. -/
def fnPointTreeEditUndoneRestoresSetSpec : ChangeSpec := { name := "fnPointTreeEditUndoneRestoresSet", fn := fun _ => fun
  | [d1, d2, d3] => { results := [.lit (.bool true)], args := [d1, d2, d3] }
  | _ => none }
def fnPointTreeEditUndoneRestoresSetRow : OpenClaim := { program := "qxb6613757a", sum := "a16b79804fe6bc7c6c24064432ba36e9133f43e761d873a7582c4f95162a982a", func := "example.com/ringmark/ringmark/zzlaws_root_b1.FnPointTreeEditUndoneRestoresSet", spec := "fnPointTreeEditUndoneRestoresSet", inPlace := ["slices.overlaps[example.com/ringmark/ringmark.treeChild]"], unfollowed := true, recurses := true, apart := false }
def FnPointTreeEditUndoneRestoresSetSaid : Prop := fnPointTreeEditUndoneRestoresSetRow.holds Try.pinned (OpenSpec.ofChange fnPointTreeEditUndoneRestoresSetSpec)

/-- ITS FALSE NEIGHBOUR: 'it returns false'. Refute it at one input. -/
def fnPointTreeEditUndoneRestoresSetWrong : ChangeSpec := { name := "fnPointTreeEditUndoneRestoresSet", fn := fun _ => fun
  | [d1, d2, d3] => { results := [.lit (.bool false)], args := [d1, d2, d3] }
  | _ => none }
def FnPointTreeEditUndoneRestoresSetWrongFalsely : Prop := fnPointTreeEditUndoneRestoresSetRow.holds Try.pinned (OpenSpec.ofChange fnPointTreeEditUndoneRestoresSetWrong)

end Rows
end Go.Proofs.Qxb6613757a

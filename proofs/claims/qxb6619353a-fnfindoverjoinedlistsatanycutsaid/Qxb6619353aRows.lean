/-
  No cell of these rows narrows 'for every input' (looked for: loops, veiled, ifaces, maps, wideKeys, modest, calm, conditions, laid).
  DERIVED. THE GIVEN ROWS OF THIS SEAT. 3 by the template 'for every input the law returns true; each argument reads behind the call as it read before'; 0 by the template 'total and deterministic' (their statements: Qxb6619353aTotals.lean).
  GIVEN WITH THE SEED: the statements are not yours to turn. If you find one false, say at which input.
  Laid BY PROGRAM, IN A SANDBOX (cutbox-rows.mjs): the forced cells as the released guide's own fill.sh prints them over the translation 12b960415c72f6fb… (all of the seat's roots in one cut). By AI agents, Wed Nov 11 2026. No macro, syntax, notation, axiom, sorry.
-/
import Derived.Test.Qxb6619353aChecked
import GoSem.Claim
import GoSem.ClaimJoined
import GoSem.ClaimMapViews
import Derived.JoinedTies
import Derived.KernelRfl
namespace Go.Proofs.Qxb6619353a
/- THE CELL 'sum', in the pinned program and in every row, IS THE sha256 OF THE DUMP (.gsa) THAT Qxb6619353aProg.lean LOADS. Nothing in Lean hashes anything: it is a label: what it is worth is what the hold of that sum in a sandbox is worth. -/
noncomputable def Try.pinned : Pinned := { name := "qxb6619353a", sum := "12b960415c72f6fbf4d52eaa4267e090425b0cc470061fcddb3f643d384d2f1f", checked := Try.checked }
namespace Rows
def none {H : Type} : Left H := { results := [], args := [] }

/-- 'zzlaws_internal_bookjson_b1.FnSpaceStopsAtFirstNonSpaceAtAnyCut': WHATEVER THE INPUT: true; the input reads as it did. -/
def fnSpaceStopsAtFirstNonSpaceAtAnyCutSpec : ChangeSpec := { name := "fnSpaceStopsAtFirstNonSpaceAtAnyCut", fn := fun _ => fun
  | [d1, d2, d3] => { results := [.lit (.bool true)], args := [d1, d2, d3] }
  | _ => none }
def fnSpaceStopsAtFirstNonSpaceAtAnyCutRow : OpenClaim := { program := "qxb6619353a", sum := "12b960415c72f6fbf4d52eaa4267e090425b0cc470061fcddb3f643d384d2f1f", func := "example.com/surety-ledger/surety-ledger/zzlaws_internal_bookjson_b1.FnSpaceStopsAtFirstNonSpaceAtAnyCut", spec := "fnSpaceStopsAtFirstNonSpaceAtAnyCut", apart := false }
def FnSpaceStopsAtFirstNonSpaceAtAnyCutSaid : Prop := fnSpaceStopsAtFirstNonSpaceAtAnyCutRow.holds Try.pinned (OpenSpec.ofChange fnSpaceStopsAtFirstNonSpaceAtAnyCutSpec)

/-- ITS FALSE NEIGHBOUR: 'it returns false'. Refute it at one input. -/
def fnSpaceStopsAtFirstNonSpaceAtAnyCutWrong : ChangeSpec := { name := "fnSpaceStopsAtFirstNonSpaceAtAnyCut", fn := fun _ => fun
  | [d1, d2, d3] => { results := [.lit (.bool false)], args := [d1, d2, d3] }
  | _ => none }
def FnSpaceStopsAtFirstNonSpaceAtAnyCutWrongFalsely : Prop := fnSpaceStopsAtFirstNonSpaceAtAnyCutRow.holds Try.pinned (OpenSpec.ofChange fnSpaceStopsAtFirstNonSpaceAtAnyCutWrong)

/-- 'zzlaws_internal_bookjson_b1.FnFindIsFirstMatchWhereverOneKeyIsPutIn': WHATEVER THE INPUT: true; the input reads as it did. -/
def fnFindIsFirstMatchWhereverOneKeyIsPutInSpec : ChangeSpec := { name := "fnFindIsFirstMatchWhereverOneKeyIsPutIn", fn := fun _ => fun
  | [d1, d2, d3] => { results := [.lit (.bool true)], args := [d1, d2, d3] }
  | _ => none }
def fnFindIsFirstMatchWhereverOneKeyIsPutInRow : OpenClaim := { program := "qxb6619353a", sum := "12b960415c72f6fbf4d52eaa4267e090425b0cc470061fcddb3f643d384d2f1f", func := "example.com/surety-ledger/surety-ledger/zzlaws_internal_bookjson_b1.FnFindIsFirstMatchWhereverOneKeyIsPutIn", spec := "fnFindIsFirstMatchWhereverOneKeyIsPutIn", apart := false }
def FnFindIsFirstMatchWhereverOneKeyIsPutInSaid : Prop := fnFindIsFirstMatchWhereverOneKeyIsPutInRow.holds Try.pinned (OpenSpec.ofChange fnFindIsFirstMatchWhereverOneKeyIsPutInSpec)

/-- ITS FALSE NEIGHBOUR: 'it returns false'. Refute it at one input. -/
def fnFindIsFirstMatchWhereverOneKeyIsPutInWrong : ChangeSpec := { name := "fnFindIsFirstMatchWhereverOneKeyIsPutIn", fn := fun _ => fun
  | [d1, d2, d3] => { results := [.lit (.bool false)], args := [d1, d2, d3] }
  | _ => none }
def FnFindIsFirstMatchWhereverOneKeyIsPutInWrongFalsely : Prop := fnFindIsFirstMatchWhereverOneKeyIsPutInRow.holds Try.pinned (OpenSpec.ofChange fnFindIsFirstMatchWhereverOneKeyIsPutInWrong)

/-- 'zzlaws_internal_bookjson_b1.FnFindOverJoinedListsAtAnyCut': WHATEVER THE INPUT: true; the input reads as it did. -/
def fnFindOverJoinedListsAtAnyCutSpec : ChangeSpec := { name := "fnFindOverJoinedListsAtAnyCut", fn := fun _ => fun
  | [d1, d2, d3] => { results := [.lit (.bool true)], args := [d1, d2, d3] }
  | _ => none }
def fnFindOverJoinedListsAtAnyCutRow : OpenClaim := { program := "qxb6619353a", sum := "12b960415c72f6fbf4d52eaa4267e090425b0cc470061fcddb3f643d384d2f1f", func := "example.com/surety-ledger/surety-ledger/zzlaws_internal_bookjson_b1.FnFindOverJoinedListsAtAnyCut", spec := "fnFindOverJoinedListsAtAnyCut", apart := false }
def FnFindOverJoinedListsAtAnyCutSaid : Prop := fnFindOverJoinedListsAtAnyCutRow.holds Try.pinned (OpenSpec.ofChange fnFindOverJoinedListsAtAnyCutSpec)

/-- ITS FALSE NEIGHBOUR: 'it returns false'. Refute it at one input. -/
def fnFindOverJoinedListsAtAnyCutWrong : ChangeSpec := { name := "fnFindOverJoinedListsAtAnyCut", fn := fun _ => fun
  | [d1, d2, d3] => { results := [.lit (.bool false)], args := [d1, d2, d3] }
  | _ => none }
def FnFindOverJoinedListsAtAnyCutWrongFalsely : Prop := fnFindOverJoinedListsAtAnyCutRow.holds Try.pinned (OpenSpec.ofChange fnFindOverJoinedListsAtAnyCutWrong)

end Rows
end Go.Proofs.Qxb6619353a

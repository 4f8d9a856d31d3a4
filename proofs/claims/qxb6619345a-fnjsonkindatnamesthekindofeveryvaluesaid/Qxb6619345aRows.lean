/-
  No cell of these rows narrows 'for every input' (looked for: loops, veiled, ifaces, maps, wideKeys, modest, calm, conditions, laid).
  DERIVED. THE GIVEN ROWS OF THIS SEAT. 4 by the template 'for every input the law returns true; each argument reads behind the call as it read before'; 0 by the template 'total and deterministic' (their statements: Qxb6619345aTotals.lean).
  GIVEN WITH THE SEED: the statements are not yours to turn. If you find one false, say at which input.
  Laid BY PROGRAM, IN A SANDBOX (cutbox-rows.mjs): the forced cells as the released guide's own fill.sh prints them over the translation 8ed9081dba2e935f… (all of the seat's roots in one cut). By AI agents, Wed Nov 11 2026. No macro, syntax, notation, axiom, sorry.
-/
import Derived.Test.Qxb6619345aChecked
import GoSem.Claim
import GoSem.ClaimJoined
import GoSem.ClaimMapViews
import Derived.JoinedTies
import Derived.KernelRfl
namespace Go.Proofs.Qxb6619345a
/- THE CELL 'sum', in the pinned program and in every row, IS THE sha256 OF THE DUMP (.gsa) THAT Qxb6619345aProg.lean LOADS. Nothing in Lean hashes anything: it is a label: what it is worth is what the hold of that sum in a sandbox is worth. -/
noncomputable def Try.pinned : Pinned := { name := "qxb6619345a", sum := "8ed9081dba2e935f95d6046c16a11fb766468e46f4ce3541d8a05f5f447e6ad4", checked := Try.checked }
namespace Rows
def none {H : Type} : Left H := { results := [], args := [] }

/-- 'zzlaws_pkg_jsonfile_b1.FnHexValueMatchesDigitModel': WHATEVER THE INPUT: true; the input reads as it did. -/
def fnHexValueMatchesDigitModelSpec : ChangeSpec := { name := "fnHexValueMatchesDigitModel", fn := fun _ => fun
  | [d] => { results := [.lit (.bool true)], args := [d] }
  | _ => none }
def fnHexValueMatchesDigitModelRow : OpenClaim := { program := "qxb6619345a", sum := "8ed9081dba2e935f95d6046c16a11fb766468e46f4ce3541d8a05f5f447e6ad4", func := "example.com/vestline/vestline/zzlaws_pkg_jsonfile_b1.FnHexValueMatchesDigitModel", spec := "fnHexValueMatchesDigitModel", apart := false }
def FnHexValueMatchesDigitModelSaid : Prop := fnHexValueMatchesDigitModelRow.holds Try.pinned (OpenSpec.ofChange fnHexValueMatchesDigitModelSpec)

/-- ITS FALSE NEIGHBOUR: 'it returns false'. Refute it at one input. -/
def fnHexValueMatchesDigitModelWrong : ChangeSpec := { name := "fnHexValueMatchesDigitModel", fn := fun _ => fun
  | [d] => { results := [.lit (.bool false)], args := [d] }
  | _ => none }
def FnHexValueMatchesDigitModelWrongFalsely : Prop := fnHexValueMatchesDigitModelRow.holds Try.pinned (OpenSpec.ofChange fnHexValueMatchesDigitModelWrong)

/-- 'zzlaws_pkg_jsonfile_b1.FnHexValueReadsAcrossAJoin': WHATEVER THE INPUT: true; the input reads as it did. -/
def fnHexValueReadsAcrossAJoinSpec : ChangeSpec := { name := "fnHexValueReadsAcrossAJoin", fn := fun _ => fun
  | [d1, d2] => { results := [.lit (.bool true)], args := [d1, d2] }
  | _ => none }
def fnHexValueReadsAcrossAJoinRow : OpenClaim := { program := "qxb6619345a", sum := "8ed9081dba2e935f95d6046c16a11fb766468e46f4ce3541d8a05f5f447e6ad4", func := "example.com/vestline/vestline/zzlaws_pkg_jsonfile_b1.FnHexValueReadsAcrossAJoin", spec := "fnHexValueReadsAcrossAJoin", apart := false }
def FnHexValueReadsAcrossAJoinSaid : Prop := fnHexValueReadsAcrossAJoinRow.holds Try.pinned (OpenSpec.ofChange fnHexValueReadsAcrossAJoinSpec)

/-- ITS FALSE NEIGHBOUR: 'it returns false'. Refute it at one input. -/
def fnHexValueReadsAcrossAJoinWrong : ChangeSpec := { name := "fnHexValueReadsAcrossAJoin", fn := fun _ => fun
  | [d1, d2] => { results := [.lit (.bool false)], args := [d1, d2] }
  | _ => none }
def FnHexValueReadsAcrossAJoinWrongFalsely : Prop := fnHexValueReadsAcrossAJoinRow.holds Try.pinned (OpenSpec.ofChange fnHexValueReadsAcrossAJoinWrong)

/-- 'zzlaws_pkg_jsonfile_b1.FnLiteralAtRoundTripsTheWords': WHATEVER THE INPUT: true; the input reads as it did. -/
def fnLiteralAtRoundTripsTheWordsSpec : ChangeSpec := { name := "fnLiteralAtRoundTripsTheWords", fn := fun _ => fun
  | [d] => { results := [.lit (.bool true)], args := [d] }
  | _ => none }
def fnLiteralAtRoundTripsTheWordsRow : OpenClaim := { program := "qxb6619345a", sum := "8ed9081dba2e935f95d6046c16a11fb766468e46f4ce3541d8a05f5f447e6ad4", func := "example.com/vestline/vestline/zzlaws_pkg_jsonfile_b1.FnLiteralAtRoundTripsTheWords", spec := "fnLiteralAtRoundTripsTheWords", apart := false }
def FnLiteralAtRoundTripsTheWordsSaid : Prop := fnLiteralAtRoundTripsTheWordsRow.holds Try.pinned (OpenSpec.ofChange fnLiteralAtRoundTripsTheWordsSpec)

/-- ITS FALSE NEIGHBOUR: 'it returns false'. Refute it at one input. -/
def fnLiteralAtRoundTripsTheWordsWrong : ChangeSpec := { name := "fnLiteralAtRoundTripsTheWords", fn := fun _ => fun
  | [d] => { results := [.lit (.bool false)], args := [d] }
  | _ => none }
def FnLiteralAtRoundTripsTheWordsWrongFalsely : Prop := fnLiteralAtRoundTripsTheWordsRow.holds Try.pinned (OpenSpec.ofChange fnLiteralAtRoundTripsTheWordsWrong)

/-- 'zzlaws_pkg_jsonfile_b1.FnJsonKindAtNamesTheKindOfEveryValue': WHATEVER THE INPUT: true; the input reads as it did. -/
def fnJsonKindAtNamesTheKindOfEveryValueSpec : ChangeSpec := { name := "fnJsonKindAtNamesTheKindOfEveryValue", fn := fun _ => fun
  | [d] => { results := [.lit (.bool true)], args := [d] }
  | _ => none }
def fnJsonKindAtNamesTheKindOfEveryValueRow : OpenClaim := { program := "qxb6619345a", sum := "8ed9081dba2e935f95d6046c16a11fb766468e46f4ce3541d8a05f5f447e6ad4", func := "example.com/vestline/vestline/zzlaws_pkg_jsonfile_b1.FnJsonKindAtNamesTheKindOfEveryValue", spec := "fnJsonKindAtNamesTheKindOfEveryValue", apart := false }
def FnJsonKindAtNamesTheKindOfEveryValueSaid : Prop := fnJsonKindAtNamesTheKindOfEveryValueRow.holds Try.pinned (OpenSpec.ofChange fnJsonKindAtNamesTheKindOfEveryValueSpec)

/-- ITS FALSE NEIGHBOUR: 'it returns false'. Refute it at one input. -/
def fnJsonKindAtNamesTheKindOfEveryValueWrong : ChangeSpec := { name := "fnJsonKindAtNamesTheKindOfEveryValue", fn := fun _ => fun
  | [d] => { results := [.lit (.bool false)], args := [d] }
  | _ => none }
def FnJsonKindAtNamesTheKindOfEveryValueWrongFalsely : Prop := fnJsonKindAtNamesTheKindOfEveryValueRow.holds Try.pinned (OpenSpec.ofChange fnJsonKindAtNamesTheKindOfEveryValueWrong)

end Rows
end Go.Proofs.Qxb6619345a

/-
  No cell of these rows narrows 'for every input' (looked for: loops, veiled, ifaces, maps, wideKeys, modest, calm, conditions, laid).
  DERIVED. THE GIVEN ROWS OF THIS SEAT. 5 by the template 'for every input the law returns true; each argument reads behind the call as it read before'; 0 by the template 'total and deterministic' (their statements: Qxb6603151aTotals.lean).
  GIVEN WITH THE SEED: the statements are not yours to turn. If you find one false, say at which input.
  Laid BY PROGRAM, IN A SANDBOX (cutbox-rows.mjs): the forced cells as the released guide's own fill.sh prints them over the translation fa9c3c60e6587fd5… (all of the seat's roots in one cut). By AI agents, Wed Nov 11 2026. No macro, syntax, notation, axiom, sorry.
-/
import Derived.Test.Qxb6603151aChecked
import GoSem.Claim
import GoSem.ClaimJoined
import GoSem.ClaimMapViews
import Derived.JoinedTies
import Derived.KernelRfl
namespace Go.Proofs.Qxb6603151a
/- THE CELL 'sum', in the pinned program and in every row, IS THE sha256 OF THE DUMP (.gsa) THAT Qxb6603151aProg.lean LOADS. Nothing in Lean hashes anything: it is a label: what it is worth is what the hold of that sum in a sandbox is worth. -/
noncomputable def Try.pinned : Pinned := { name := "qxb6603151a", sum := "fa9c3c60e6587fd5ca6134a80782aa92d6f44b4ad997d39e6d8e685c762c2de5", checked := Try.checked }
namespace Rows
def none {H : Type} : Left H := { results := [], args := [] }

/-- 'zzlaws_pkg_csvfile_b1.FnPlacesMatchesModel': WHATEVER THE INPUT: true; the input reads as it did. -/
def fnPlacesMatchesModelSpec : ChangeSpec := { name := "fnPlacesMatchesModel", fn := fun _ => fun
  | [d1, d2, d3, d4] => { results := [.lit (.bool true)], args := [d1, d2, d3, d4] }
  | _ => none }
def fnPlacesMatchesModelRow : OpenClaim := { program := "qxb6603151a", sum := "fa9c3c60e6587fd5ca6134a80782aa92d6f44b4ad997d39e6d8e685c762c2de5", func := "example.com/zhaomu/zhaomu/zzlaws_pkg_csvfile_b1.FnPlacesMatchesModel", spec := "fnPlacesMatchesModel", apart := false }
def FnPlacesMatchesModelSaid : Prop := fnPlacesMatchesModelRow.holds Try.pinned (OpenSpec.ofChange fnPlacesMatchesModelSpec)

/-- ITS FALSE NEIGHBOUR: 'it returns false'. Refute it at one input. -/
def fnPlacesMatchesModelWrong : ChangeSpec := { name := "fnPlacesMatchesModel", fn := fun _ => fun
  | [d1, d2, d3, d4] => { results := [.lit (.bool false)], args := [d1, d2, d3, d4] }
  | _ => none }
def FnPlacesMatchesModelWrongFalsely : Prop := fnPlacesMatchesModelRow.holds Try.pinned (OpenSpec.ofChange fnPlacesMatchesModelWrong)

/-- 'zzlaws_pkg_csvfile_b1.FnPlacesPointAtTheirColumns': WHATEVER THE INPUT: true; the input reads as it did. -/
def fnPlacesPointAtTheirColumnsSpec : ChangeSpec := { name := "fnPlacesPointAtTheirColumns", fn := fun _ => fun
  | [d1, d2, d3, d4] => { results := [.lit (.bool true)], args := [d1, d2, d3, d4] }
  | _ => none }
def fnPlacesPointAtTheirColumnsRow : OpenClaim := { program := "qxb6603151a", sum := "fa9c3c60e6587fd5ca6134a80782aa92d6f44b4ad997d39e6d8e685c762c2de5", func := "example.com/zhaomu/zhaomu/zzlaws_pkg_csvfile_b1.FnPlacesPointAtTheirColumns", spec := "fnPlacesPointAtTheirColumns", apart := false }
def FnPlacesPointAtTheirColumnsSaid : Prop := fnPlacesPointAtTheirColumnsRow.holds Try.pinned (OpenSpec.ofChange fnPlacesPointAtTheirColumnsSpec)

/-- ITS FALSE NEIGHBOUR: 'it returns false'. Refute it at one input. -/
def fnPlacesPointAtTheirColumnsWrong : ChangeSpec := { name := "fnPlacesPointAtTheirColumns", fn := fun _ => fun
  | [d1, d2, d3, d4] => { results := [.lit (.bool false)], args := [d1, d2, d3, d4] }
  | _ => none }
def FnPlacesPointAtTheirColumnsWrongFalsely : Prop := fnPlacesPointAtTheirColumnsRow.holds Try.pinned (OpenSpec.ofChange fnPlacesPointAtTheirColumnsWrong)

/-- 'zzlaws_pkg_csvfile_b1.FnPlacesAcceptsHeaderThenOptional': WHATEVER THE INPUT: true; the input reads as it did. -/
def fnPlacesAcceptsHeaderThenOptionalSpec : ChangeSpec := { name := "fnPlacesAcceptsHeaderThenOptional", fn := fun _ => fun
  | [d1, d2, d3, d4, d5, d6] => { results := [.lit (.bool true)], args := [d1, d2, d3, d4, d5, d6] }
  | _ => none }
def fnPlacesAcceptsHeaderThenOptionalRow : OpenClaim := { program := "qxb6603151a", sum := "fa9c3c60e6587fd5ca6134a80782aa92d6f44b4ad997d39e6d8e685c762c2de5", func := "example.com/zhaomu/zhaomu/zzlaws_pkg_csvfile_b1.FnPlacesAcceptsHeaderThenOptional", spec := "fnPlacesAcceptsHeaderThenOptional", apart := false }
def FnPlacesAcceptsHeaderThenOptionalSaid : Prop := fnPlacesAcceptsHeaderThenOptionalRow.holds Try.pinned (OpenSpec.ofChange fnPlacesAcceptsHeaderThenOptionalSpec)

/-- ITS FALSE NEIGHBOUR: 'it returns false'. Refute it at one input. -/
def fnPlacesAcceptsHeaderThenOptionalWrong : ChangeSpec := { name := "fnPlacesAcceptsHeaderThenOptional", fn := fun _ => fun
  | [d1, d2, d3, d4, d5, d6] => { results := [.lit (.bool false)], args := [d1, d2, d3, d4, d5, d6] }
  | _ => none }
def FnPlacesAcceptsHeaderThenOptionalWrongFalsely : Prop := fnPlacesAcceptsHeaderThenOptionalRow.holds Try.pinned (OpenSpec.ofChange fnPlacesAcceptsHeaderThenOptionalWrong)

/-- 'zzlaws_pkg_csvfile_b1.FnToStringsAppendsEachField': WHATEVER THE INPUT: true; the input reads as it did. -/
def fnToStringsAppendsEachFieldSpec : ChangeSpec := { name := "fnToStringsAppendsEachField", fn := fun _ => fun
  | [d1, d2] => { results := [.lit (.bool true)], args := [d1, d2] }
  | _ => none }
def fnToStringsAppendsEachFieldRow : OpenClaim := { program := "qxb6603151a", sum := "fa9c3c60e6587fd5ca6134a80782aa92d6f44b4ad997d39e6d8e685c762c2de5", func := "example.com/zhaomu/zhaomu/zzlaws_pkg_csvfile_b1.FnToStringsAppendsEachField", spec := "fnToStringsAppendsEachField", inPlace := ["internal/abi.NoEscape"], apart := false }
def FnToStringsAppendsEachFieldSaid : Prop := fnToStringsAppendsEachFieldRow.holds Try.pinned (OpenSpec.ofChange fnToStringsAppendsEachFieldSpec)

/-- ITS FALSE NEIGHBOUR: 'it returns false'. Refute it at one input. -/
def fnToStringsAppendsEachFieldWrong : ChangeSpec := { name := "fnToStringsAppendsEachField", fn := fun _ => fun
  | [d1, d2] => { results := [.lit (.bool false)], args := [d1, d2] }
  | _ => none }
def FnToStringsAppendsEachFieldWrongFalsely : Prop := fnToStringsAppendsEachFieldRow.holds Try.pinned (OpenSpec.ofChange fnToStringsAppendsEachFieldWrong)

/-- 'zzlaws_pkg_csvfile_b1.FnToStringsInPiecesIsAtOnce': WHATEVER THE INPUT: true; the input reads as it did. -/
def fnToStringsInPiecesIsAtOnceSpec : ChangeSpec := { name := "fnToStringsInPiecesIsAtOnce", fn := fun _ => fun
  | [d1, d2, d3] => { results := [.lit (.bool true)], args := [d1, d2, d3] }
  | _ => none }
def fnToStringsInPiecesIsAtOnceRow : OpenClaim := { program := "qxb6603151a", sum := "fa9c3c60e6587fd5ca6134a80782aa92d6f44b4ad997d39e6d8e685c762c2de5", func := "example.com/zhaomu/zhaomu/zzlaws_pkg_csvfile_b1.FnToStringsInPiecesIsAtOnce", spec := "fnToStringsInPiecesIsAtOnce", inPlace := ["internal/abi.NoEscape"], apart := false }
def FnToStringsInPiecesIsAtOnceSaid : Prop := fnToStringsInPiecesIsAtOnceRow.holds Try.pinned (OpenSpec.ofChange fnToStringsInPiecesIsAtOnceSpec)

/-- ITS FALSE NEIGHBOUR: 'it returns false'. Refute it at one input. -/
def fnToStringsInPiecesIsAtOnceWrong : ChangeSpec := { name := "fnToStringsInPiecesIsAtOnce", fn := fun _ => fun
  | [d1, d2, d3] => { results := [.lit (.bool false)], args := [d1, d2, d3] }
  | _ => none }
def FnToStringsInPiecesIsAtOnceWrongFalsely : Prop := fnToStringsInPiecesIsAtOnceRow.holds Try.pinned (OpenSpec.ofChange fnToStringsInPiecesIsAtOnceWrong)

end Rows
end Go.Proofs.Qxb6603151a

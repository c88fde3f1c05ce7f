/-
  No cell of these rows narrows 'for every input' (looked for: loops, veiled, ifaces, maps, wideKeys, modest, calm, conditions, laid).
  DERIVED. THE GIVEN ROWS OF THIS SEAT. 3 by the template 'for every input the law returns true; each argument reads behind the call as it read before'; 0 by the template 'total and deterministic' (their statements: Qxb6602727aTotals.lean).
  GIVEN WITH THE SEED: the statements are not yours to turn. If you find one false, say at which input.
  Laid BY PROGRAM, IN A SANDBOX (cutbox-rows.mjs): the forced cells as the released guide's own fill.sh prints them over the translation 4ca052aca2909562… (all of the seat's roots in one cut). By AI agents, Wed Nov 11 2026. No macro, syntax, notation, axiom, sorry.
-/
import Derived.Test.Qxb6602727aChecked
import GoSem.Claim
import GoSem.ClaimJoined
import GoSem.ClaimMapViews
import Derived.JoinedTies
import Derived.KernelRfl
namespace Go.Proofs.Qxb6602727a
/- THE CELL 'sum', in the pinned program and in every row, IS THE sha256 OF THE DUMP (.gsa) THAT Qxb6602727aProg.lean LOADS. Nothing in Lean hashes anything: it is a label: what it is worth is what the hold of that sum in a sandbox is worth. -/
noncomputable def Try.pinned : Pinned := { name := "qxb6602727a", sum := "4ca052aca2909562b5f1ceaf54ee061ed7a770d78547bbe9641d077606ba3960", checked := Try.checked }
namespace Rows
def none {H : Type} : Left H := { results := [], args := [] }

/-- 'zzlaws_internal_git_b1.FnCommandMatchesValueSlotModel': WHATEVER THE INPUT: true; the input reads as it did. -/
def fnCommandMatchesValueSlotModelSpec : ChangeSpec := { name := "fnCommandMatchesValueSlotModel", fn := fun _ => fun
  | [d] => { results := [.lit (.bool true)], args := [d] }
  | _ => none }
def fnCommandMatchesValueSlotModelRow : OpenClaim := { program := "qxb6602727a", sum := "4ca052aca2909562b5f1ceaf54ee061ed7a770d78547bbe9641d077606ba3960", func := "example.com/millrace/millrace/zzlaws_internal_git_b1.FnCommandMatchesValueSlotModel", spec := "fnCommandMatchesValueSlotModel", apart := false }
def FnCommandMatchesValueSlotModelSaid : Prop := fnCommandMatchesValueSlotModelRow.holds Try.pinned (OpenSpec.ofChange fnCommandMatchesValueSlotModelSpec)

/-- ITS FALSE NEIGHBOUR: 'it returns false'. Refute it at one input. -/
def fnCommandMatchesValueSlotModelWrong : ChangeSpec := { name := "fnCommandMatchesValueSlotModel", fn := fun _ => fun
  | [d] => { results := [.lit (.bool false)], args := [d] }
  | _ => none }
def FnCommandMatchesValueSlotModelWrongFalsely : Prop := fnCommandMatchesValueSlotModelRow.holds Try.pinned (OpenSpec.ofChange fnCommandMatchesValueSlotModelWrong)

/-- 'zzlaws_internal_git_b1.FnCommandHeadCases': WHATEVER THE INPUT: true; the input reads as it did. -/
def fnCommandHeadCasesSpec : ChangeSpec := { name := "fnCommandHeadCases", fn := fun _ => fun
  | [d1, d2] => { results := [.lit (.bool true)], args := [d1, d2] }
  | _ => none }
def fnCommandHeadCasesRow : OpenClaim := { program := "qxb6602727a", sum := "4ca052aca2909562b5f1ceaf54ee061ed7a770d78547bbe9641d077606ba3960", func := "example.com/millrace/millrace/zzlaws_internal_git_b1.FnCommandHeadCases", spec := "fnCommandHeadCases", apart := false }
def FnCommandHeadCasesSaid : Prop := fnCommandHeadCasesRow.holds Try.pinned (OpenSpec.ofChange fnCommandHeadCasesSpec)

/-- ITS FALSE NEIGHBOUR: 'it returns false'. Refute it at one input. -/
def fnCommandHeadCasesWrong : ChangeSpec := { name := "fnCommandHeadCases", fn := fun _ => fun
  | [d1, d2] => { results := [.lit (.bool false)], args := [d1, d2] }
  | _ => none }
def FnCommandHeadCasesWrongFalsely : Prop := fnCommandHeadCasesRow.holds Try.pinned (OpenSpec.ofChange fnCommandHeadCasesWrong)

/-- 'zzlaws_internal_git_b1.FnCommandStableUnderAppend': WHATEVER THE INPUT: true; the input reads as it did. -/
def fnCommandStableUnderAppendSpec : ChangeSpec := { name := "fnCommandStableUnderAppend", fn := fun _ => fun
  | [d1, d2] => { results := [.lit (.bool true)], args := [d1, d2] }
  | _ => none }
def fnCommandStableUnderAppendRow : OpenClaim := { program := "qxb6602727a", sum := "4ca052aca2909562b5f1ceaf54ee061ed7a770d78547bbe9641d077606ba3960", func := "example.com/millrace/millrace/zzlaws_internal_git_b1.FnCommandStableUnderAppend", spec := "fnCommandStableUnderAppend", apart := false }
def FnCommandStableUnderAppendSaid : Prop := fnCommandStableUnderAppendRow.holds Try.pinned (OpenSpec.ofChange fnCommandStableUnderAppendSpec)

/-- ITS FALSE NEIGHBOUR: 'it returns false'. Refute it at one input. -/
def fnCommandStableUnderAppendWrong : ChangeSpec := { name := "fnCommandStableUnderAppend", fn := fun _ => fun
  | [d1, d2] => { results := [.lit (.bool false)], args := [d1, d2] }
  | _ => none }
def FnCommandStableUnderAppendWrongFalsely : Prop := fnCommandStableUnderAppendRow.holds Try.pinned (OpenSpec.ofChange fnCommandStableUnderAppendWrong)

end Rows
end Go.Proofs.Qxb6602727a

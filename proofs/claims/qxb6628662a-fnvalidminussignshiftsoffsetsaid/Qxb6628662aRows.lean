/-
  No cell of these rows narrows 'for every input' (looked for: loops, veiled, ifaces, maps, wideKeys, modest, calm, conditions, laid).
  DERIVED. THE GIVEN ROWS OF THIS SEAT. 2 by the template 'for every input the law returns true; each argument reads behind the call as it read before'; 0 by the template 'total and deterministic' (their statements: Qxb6628662aTotals.lean).
  GIVEN WITH THE SEED: the statements are not yours to turn. If you find one false, say at which input.
  Laid BY PROGRAM, IN A SANDBOX (cutbox-rows.mjs): the forced cells as the released guide's own fill.sh prints them over the translation ec6b6cab2a65bedb… (all of the seat's roots in one cut). By AI agents, Wed Nov 11 2026. No macro, syntax, notation, axiom, sorry.
-/
import Derived.Test.Qxb6628662aChecked
import GoSem.Claim
import GoSem.ClaimJoined
import GoSem.ClaimMapViews
import Derived.JoinedTies
import Derived.KernelRfl
namespace Go.Proofs.Qxb6628662a
/- THE CELL 'sum', in the pinned program and in every row, IS THE sha256 OF THE DUMP (.gsa) THAT Qxb6628662aProg.lean LOADS. Nothing in Lean hashes anything: it is a label: what it is worth is what the hold of that sum in a sandbox is worth. -/
noncomputable def Try.pinned : Pinned := { name := "qxb6628662a", sum := "ec6b6cab2a65bedb4bf8529a3fcdbf27ca2fe5119d10ca58276fdb48064fcfb2", checked := Try.checked }
namespace Rows
def none {H : Type} : Left H := { results := [], args := [] }

/-- 'zzlaws_internal_exact_b1.FnValidAgreesWithNumberAutomaton': WHATEVER THE INPUT: true; the input reads as it did. -/
def fnValidAgreesWithNumberAutomatonSpec : ChangeSpec := { name := "fnValidAgreesWithNumberAutomaton", fn := fun _ => fun
  | [d] => { results := [.lit (.bool true)], args := [d] }
  | _ => none }
def fnValidAgreesWithNumberAutomatonRow : OpenClaim := { program := "qxb6628662a", sum := "ec6b6cab2a65bedb4bf8529a3fcdbf27ca2fe5119d10ca58276fdb48064fcfb2", func := "example.com/tariffwright/tariffwright/zzlaws_internal_exact_b1.FnValidAgreesWithNumberAutomaton", spec := "fnValidAgreesWithNumberAutomaton", apart := false }
def FnValidAgreesWithNumberAutomatonSaid : Prop := fnValidAgreesWithNumberAutomatonRow.holds Try.pinned (OpenSpec.ofChange fnValidAgreesWithNumberAutomatonSpec)

/-- ITS FALSE NEIGHBOUR: 'it returns false'. Refute it at one input. -/
def fnValidAgreesWithNumberAutomatonWrong : ChangeSpec := { name := "fnValidAgreesWithNumberAutomaton", fn := fun _ => fun
  | [d] => { results := [.lit (.bool false)], args := [d] }
  | _ => none }
def FnValidAgreesWithNumberAutomatonWrongFalsely : Prop := fnValidAgreesWithNumberAutomatonRow.holds Try.pinned (OpenSpec.ofChange fnValidAgreesWithNumberAutomatonWrong)

/-- 'zzlaws_internal_exact_b1.FnValidMinusSignShiftsOffset': WHATEVER THE INPUT: true; the input reads as it did. -/
def fnValidMinusSignShiftsOffsetSpec : ChangeSpec := { name := "fnValidMinusSignShiftsOffset", fn := fun _ => fun
  | [d] => { results := [.lit (.bool true)], args := [d] }
  | _ => none }
def fnValidMinusSignShiftsOffsetRow : OpenClaim := { program := "qxb6628662a", sum := "ec6b6cab2a65bedb4bf8529a3fcdbf27ca2fe5119d10ca58276fdb48064fcfb2", func := "example.com/tariffwright/tariffwright/zzlaws_internal_exact_b1.FnValidMinusSignShiftsOffset", spec := "fnValidMinusSignShiftsOffset", apart := false }
def FnValidMinusSignShiftsOffsetSaid : Prop := fnValidMinusSignShiftsOffsetRow.holds Try.pinned (OpenSpec.ofChange fnValidMinusSignShiftsOffsetSpec)

/-- ITS FALSE NEIGHBOUR: 'it returns false'. Refute it at one input. -/
def fnValidMinusSignShiftsOffsetWrong : ChangeSpec := { name := "fnValidMinusSignShiftsOffset", fn := fun _ => fun
  | [d] => { results := [.lit (.bool false)], args := [d] }
  | _ => none }
def FnValidMinusSignShiftsOffsetWrongFalsely : Prop := fnValidMinusSignShiftsOffsetRow.holds Try.pinned (OpenSpec.ofChange fnValidMinusSignShiftsOffsetWrong)

end Rows
end Go.Proofs.Qxb6628662a

/-
  No cell of these rows narrows 'for every input' (looked for: loops, veiled, ifaces, maps, wideKeys, modest, calm, conditions, laid).
  DERIVED. THE GIVEN ROWS OF THIS SEAT. 2 by the template 'for every input the law returns true; each argument reads behind the call as it read before'; 0 by the template 'total and deterministic' (their statements: Qxb6628588aTotals.lean).
  GIVEN WITH THE SEED: the statements are not yours to turn. If you find one false, say at which input.
  Laid BY PROGRAM, IN A SANDBOX (cutbox-rows.mjs): the forced cells as the released guide's own fill.sh prints them over the translation 558d0c321352e6eb… (all of the seat's roots in one cut). By AI agents, Wed Nov 11 2026. No macro, syntax, notation, axiom, sorry.
-/
import Derived.Test.Qxb6628588aChecked
import GoSem.Claim
import GoSem.ClaimJoined
import GoSem.ClaimMapViews
import Derived.JoinedTies
import Derived.KernelRfl
namespace Go.Proofs.Qxb6628588a
/- THE CELL 'sum', in the pinned program and in every row, IS THE sha256 OF THE DUMP (.gsa) THAT Qxb6628588aProg.lean LOADS. Nothing in Lean hashes anything: it is a label: what it is worth is what the hold of that sum in a sandbox is worth. -/
noncomputable def Try.pinned : Pinned := { name := "qxb6628588a", sum := "558d0c321352e6eb4abb7d793aace0c1a9f164ab57ec8d3d870681634d059453", checked := Try.checked }
namespace Rows
def none {H : Type} : Left H := { results := [], args := [] }

/-- 'zzlaws_internal_decimal_b1.FnCountDigitsSplitsAtAnyJoin': WHATEVER THE INPUT: true; the input reads as it did. -/
def fnCountDigitsSplitsAtAnyJoinSpec : ChangeSpec := { name := "fnCountDigitsSplitsAtAnyJoin", fn := fun _ => fun
  | [d1, d2] => { results := [.lit (.bool true)], args := [d1, d2] }
  | _ => none }
def fnCountDigitsSplitsAtAnyJoinRow : OpenClaim := { program := "qxb6628588a", sum := "558d0c321352e6eb4abb7d793aace0c1a9f164ab57ec8d3d870681634d059453", func := "example.com/orderly-conditions/orderly-conditions/zzlaws_internal_decimal_b1.FnCountDigitsSplitsAtAnyJoin", spec := "fnCountDigitsSplitsAtAnyJoin", apart := false }
def FnCountDigitsSplitsAtAnyJoinSaid : Prop := fnCountDigitsSplitsAtAnyJoinRow.holds Try.pinned (OpenSpec.ofChange fnCountDigitsSplitsAtAnyJoinSpec)

/-- ITS FALSE NEIGHBOUR: 'it returns false'. Refute it at one input. -/
def fnCountDigitsSplitsAtAnyJoinWrong : ChangeSpec := { name := "fnCountDigitsSplitsAtAnyJoin", fn := fun _ => fun
  | [d1, d2] => { results := [.lit (.bool false)], args := [d1, d2] }
  | _ => none }
def FnCountDigitsSplitsAtAnyJoinWrongFalsely : Prop := fnCountDigitsSplitsAtAnyJoinRow.holds Try.pinned (OpenSpec.ofChange fnCountDigitsSplitsAtAnyJoinWrong)

/-- 'zzlaws_internal_decimal_b1.FnCountDigitsInsertOneByte': WHATEVER THE INPUT: true; the input reads as it did. -/
def fnCountDigitsInsertOneByteSpec : ChangeSpec := { name := "fnCountDigitsInsertOneByte", fn := fun _ => fun
  | [d1, d2, d3] => { results := [.lit (.bool true)], args := [d1, d2, d3] }
  | _ => none }
def fnCountDigitsInsertOneByteRow : OpenClaim := { program := "qxb6628588a", sum := "558d0c321352e6eb4abb7d793aace0c1a9f164ab57ec8d3d870681634d059453", func := "example.com/orderly-conditions/orderly-conditions/zzlaws_internal_decimal_b1.FnCountDigitsInsertOneByte", spec := "fnCountDigitsInsertOneByte", apart := false }
def FnCountDigitsInsertOneByteSaid : Prop := fnCountDigitsInsertOneByteRow.holds Try.pinned (OpenSpec.ofChange fnCountDigitsInsertOneByteSpec)

/-- ITS FALSE NEIGHBOUR: 'it returns false'. Refute it at one input. -/
def fnCountDigitsInsertOneByteWrong : ChangeSpec := { name := "fnCountDigitsInsertOneByte", fn := fun _ => fun
  | [d1, d2, d3] => { results := [.lit (.bool false)], args := [d1, d2, d3] }
  | _ => none }
def FnCountDigitsInsertOneByteWrongFalsely : Prop := fnCountDigitsInsertOneByteRow.holds Try.pinned (OpenSpec.ofChange fnCountDigitsInsertOneByteWrong)

end Rows
end Go.Proofs.Qxb6628588a

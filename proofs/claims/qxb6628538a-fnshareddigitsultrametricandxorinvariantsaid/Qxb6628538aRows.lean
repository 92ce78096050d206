/-
  No cell of these rows narrows 'for every input' (looked for: loops, veiled, ifaces, maps, wideKeys, modest, calm, conditions, laid).
  DERIVED. THE GIVEN ROWS OF THIS SEAT. 2 by the template 'for every input the law returns true; each argument reads behind the call as it read before'; 0 by the template 'total and deterministic' (their statements: Qxb6628538aTotals.lean).
  GIVEN WITH THE SEED: the statements are not yours to turn. If you find one false, say at which input.
  Laid BY PROGRAM, IN A SANDBOX (cutbox-rows.mjs): the forced cells as the released guide's own fill.sh prints them over the translation 528fee2fcf4ac282… (all of the seat's roots in one cut). By AI agents, Wed Nov 11 2026. No macro, syntax, notation, axiom, sorry.
-/
import Derived.Test.Qxb6628538aChecked
import GoSem.Claim
import GoSem.ClaimJoined
import GoSem.ClaimMapViews
import Derived.JoinedTies
import Derived.KernelRfl
namespace Go.Proofs.Qxb6628538a
/- THE CELL 'sum', in the pinned program and in every row, IS THE sha256 OF THE DUMP (.gsa) THAT Qxb6628538aProg.lean LOADS. Nothing in Lean hashes anything: it is a label: what it is worth is what the hold of that sum in a sandbox is worth. -/
noncomputable def Try.pinned : Pinned := { name := "qxb6628538a", sum := "528fee2fcf4ac282dd3f87ae84574c7cdca1de58cee3db3b21a150001d83a718", checked := Try.checked }
namespace Rows
def none {H : Type} : Left H := { results := [], args := [] }

/-- 'zzlaws_internal_circle_b1.FnSharedDigitsIsLongestCommonDigitPrefix': WHATEVER THE INPUT: true; the input reads as it did. -/
def fnSharedDigitsIsLongestCommonDigitPrefixSpec : ChangeSpec := { name := "fnSharedDigitsIsLongestCommonDigitPrefix", fn := fun _ => fun
  | [d1, d2] => { results := [.lit (.bool true)], args := [d1, d2] }
  | _ => none }
def fnSharedDigitsIsLongestCommonDigitPrefixRow : OpenClaim := { program := "qxb6628538a", sum := "528fee2fcf4ac282dd3f87ae84574c7cdca1de58cee3db3b21a150001d83a718", func := "example.com/murmuration/murmuration/zzlaws_internal_circle_b1.FnSharedDigitsIsLongestCommonDigitPrefix", spec := "fnSharedDigitsIsLongestCommonDigitPrefix", apart := false }
def FnSharedDigitsIsLongestCommonDigitPrefixSaid : Prop := fnSharedDigitsIsLongestCommonDigitPrefixRow.holds Try.pinned (OpenSpec.ofChange fnSharedDigitsIsLongestCommonDigitPrefixSpec)

/-- ITS FALSE NEIGHBOUR: 'it returns false'. Refute it at one input. -/
def fnSharedDigitsIsLongestCommonDigitPrefixWrong : ChangeSpec := { name := "fnSharedDigitsIsLongestCommonDigitPrefix", fn := fun _ => fun
  | [d1, d2] => { results := [.lit (.bool false)], args := [d1, d2] }
  | _ => none }
def FnSharedDigitsIsLongestCommonDigitPrefixWrongFalsely : Prop := fnSharedDigitsIsLongestCommonDigitPrefixRow.holds Try.pinned (OpenSpec.ofChange fnSharedDigitsIsLongestCommonDigitPrefixWrong)

/-- 'zzlaws_internal_circle_b1.FnSharedDigitsUltrametricAndXorInvariant': WHATEVER THE INPUT: true; the input reads as it did. -/
def fnSharedDigitsUltrametricAndXorInvariantSpec : ChangeSpec := { name := "fnSharedDigitsUltrametricAndXorInvariant", fn := fun _ => fun
  | [d1, d2, d3, d4] => { results := [.lit (.bool true)], args := [d1, d2, d3, d4] }
  | _ => none }
def fnSharedDigitsUltrametricAndXorInvariantRow : OpenClaim := { program := "qxb6628538a", sum := "528fee2fcf4ac282dd3f87ae84574c7cdca1de58cee3db3b21a150001d83a718", func := "example.com/murmuration/murmuration/zzlaws_internal_circle_b1.FnSharedDigitsUltrametricAndXorInvariant", spec := "fnSharedDigitsUltrametricAndXorInvariant", apart := false }
def FnSharedDigitsUltrametricAndXorInvariantSaid : Prop := fnSharedDigitsUltrametricAndXorInvariantRow.holds Try.pinned (OpenSpec.ofChange fnSharedDigitsUltrametricAndXorInvariantSpec)

/-- ITS FALSE NEIGHBOUR: 'it returns false'. Refute it at one input. -/
def fnSharedDigitsUltrametricAndXorInvariantWrong : ChangeSpec := { name := "fnSharedDigitsUltrametricAndXorInvariant", fn := fun _ => fun
  | [d1, d2, d3, d4] => { results := [.lit (.bool false)], args := [d1, d2, d3, d4] }
  | _ => none }
def FnSharedDigitsUltrametricAndXorInvariantWrongFalsely : Prop := fnSharedDigitsUltrametricAndXorInvariantRow.holds Try.pinned (OpenSpec.ofChange fnSharedDigitsUltrametricAndXorInvariantWrong)

end Rows
end Go.Proofs.Qxb6628538a

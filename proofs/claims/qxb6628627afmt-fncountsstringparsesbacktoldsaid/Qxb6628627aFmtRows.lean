/-
  No cell of these rows narrows 'for every input' (looked for: loops, veiled, ifaces, maps, wideKeys, modest, calm, conditions, laid).
  DERIVED. THE GIVEN ROWS OF THIS SEAT. 2 by the template 'for every input the law returns true; each argument reads behind the call as it read before'; 0 by the template 'total and deterministic' (their statements: Qxb6628627aFmtTotals.lean).
  GIVEN WITH THE SEED: the statements are not yours to turn. If you find one false, say at which input.
  Laid BY PROGRAM, IN A SANDBOX (cutbox-rows.mjs): the forced cells as the released guide's own fill.sh prints them over the translation 5d600d42a5dba613… (all of the seat's roots in one cut). By AI agents, Wed Nov 11 2026. No macro, syntax, notation, axiom, sorry.
-/
import Derived.Test.Qxb6628627aFmtChecked
import GoSem.Claim
import GoSem.ClaimJoined
import GoSem.ClaimMapViews
import Derived.JoinedTies
import Derived.KernelRfl
namespace Go.Proofs.Qxb6628627aFmt
/- THE CELL 'sum', in the pinned program and in every row, IS THE sha256 OF THE DUMP (.gsa) THAT Qxb6628627aFmtProg.lean LOADS. Nothing in Lean hashes anything: it is a label: what it is worth is what the hold of that sum in a sandbox is worth. -/
noncomputable def Tryf.pinned : Pinned := { name := "qxb6628627afmt", sum := "5d600d42a5dba6138c4859973d91d9a02d2993045cc48ae4777f9d16212480d8", checked := Tryf.checked }
namespace Rows
def none {H : Type} : Left H := { results := [], args := [] }

/-- 'zzlaws_probe_b1.FnCountsStringParsesBack': WHATEVER THE INPUT: true; the input reads as it did. -/
def fnCountsStringParsesBackSpec : ChangeSpec := { name := "fnCountsStringParsesBack", fn := fun _ => fun
  | [d1, d2, d3, d4, d5, d6, d7, d8, d9] => { results := [.lit (.bool true)], args := [d1, d2, d3, d4, d5, d6, d7, d8, d9] }
  | _ => none }
def fnCountsStringParsesBackRow : OpenClaim := { program := "qxb6628627afmt", sum := "5d600d42a5dba6138c4859973d91d9a02d2993045cc48ae4777f9d16212480d8", func := "example.com/klaxonry/klaxonry/zzlaws_probe_b1.FnCountsStringParsesBack", spec := "fnCountsStringParsesBack", stops := ["fmt.Sprintf"], inPlace := ["fmt.Sprintf"], apart := false }
/-- NO THEOREM (fmt's text is open here; it may be false): for the released tool's asking of the row's closed facts alone. THE STATEMENT IS 'FnCountsStringParsesBackToldSaid' (Qxb6628627aFmtCards.lean). -/
def FnCountsStringParsesBackFormAsk : Prop := fnCountsStringParsesBackRow.holds Tryf.pinned (OpenSpec.ofChange fnCountsStringParsesBackSpec)

/-- ITS FALSE NEIGHBOUR: 'it returns false'. Refute it at one input. -/
def fnCountsStringParsesBackWrong : ChangeSpec := { name := "fnCountsStringParsesBack", fn := fun _ => fun
  | [d1, d2, d3, d4, d5, d6, d7, d8, d9] => { results := [.lit (.bool false)], args := [d1, d2, d3, d4, d5, d6, d7, d8, d9] }
  | _ => none }
def FnCountsStringParsesBackWrongFormAsk : Prop := fnCountsStringParsesBackRow.holds Tryf.pinned (OpenSpec.ofChange fnCountsStringParsesBackWrong)

/-- 'zzlaws_probe_b1.FnCountsStringMalformedOnlyWhenCounted': WHATEVER THE INPUT: true; the input reads as it did. -/
def fnCountsStringMalformedOnlyWhenCountedSpec : ChangeSpec := { name := "fnCountsStringMalformedOnlyWhenCounted", fn := fun _ => fun
  | [d1, d2, d3, d4, d5, d6, d7, d8, d9] => { results := [.lit (.bool true)], args := [d1, d2, d3, d4, d5, d6, d7, d8, d9] }
  | _ => none }
def fnCountsStringMalformedOnlyWhenCountedRow : OpenClaim := { program := "qxb6628627afmt", sum := "5d600d42a5dba6138c4859973d91d9a02d2993045cc48ae4777f9d16212480d8", func := "example.com/klaxonry/klaxonry/zzlaws_probe_b1.FnCountsStringMalformedOnlyWhenCounted", spec := "fnCountsStringMalformedOnlyWhenCounted", stops := ["fmt.Sprintf"], inPlace := ["fmt.Sprintf"], apart := false }
/-- NO THEOREM (fmt's text is open here; it may be false): for the released tool's asking of the row's closed facts alone. THE STATEMENT IS 'FnCountsStringMalformedOnlyWhenCountedToldSaid' (Qxb6628627aFmtCards.lean). -/
def FnCountsStringMalformedOnlyWhenCountedFormAsk : Prop := fnCountsStringMalformedOnlyWhenCountedRow.holds Tryf.pinned (OpenSpec.ofChange fnCountsStringMalformedOnlyWhenCountedSpec)

/-- ITS FALSE NEIGHBOUR: 'it returns false'. Refute it at one input. -/
def fnCountsStringMalformedOnlyWhenCountedWrong : ChangeSpec := { name := "fnCountsStringMalformedOnlyWhenCounted", fn := fun _ => fun
  | [d1, d2, d3, d4, d5, d6, d7, d8, d9] => { results := [.lit (.bool false)], args := [d1, d2, d3, d4, d5, d6, d7, d8, d9] }
  | _ => none }
def FnCountsStringMalformedOnlyWhenCountedWrongFormAsk : Prop := fnCountsStringMalformedOnlyWhenCountedRow.holds Tryf.pinned (OpenSpec.ofChange fnCountsStringMalformedOnlyWhenCountedWrong)

end Rows
end Go.Proofs.Qxb6628627aFmt

/-
  DERIVED. GIVEN WITH THE SEED: THE CARDS: each row of Qxb6628627aFmtRows.lean that lists a variable, with what it lists TIED to the program's text (the seventh form; the later family's looks); each row that meets fmt, with fmt's text TOLD by the authors' own Lean function (tested against real Go, not proved from fmt's source: count such statements apart). THE CARD IS WHAT COUNTS. Prove the row's statement (the work); the ties are given (Qxb6628627aFmtTie.lean); close each card by the builder's one call (the guide's Derived/Test/ToyasCard.lean, 'card_holds'). Laid BY PROGRAM, IN A SANDBOX (cutbox-door.mjs). By AI agents, Wed Nov 11 2026. No macro, syntax, notation, axiom, sorry.
-/
import Derived.Test.Qxb6628627aFmtRows
import GoSem.ClaimSeven
namespace Go.Proofs.Qxb6628627aFmt
namespace Rows

/-- THE TOLD CARD OF 'zzlaws_probe_b1.FnCountsStringParsesBack'. -/
def fnCountsStringParsesBackCard : Claim7 := { stood := { row := fnCountsStringParsesBackRow, standIns := [], harness := (true, "fc1cd1a9adaac1e1249b2ef4969fd2450b052040f12074059542085699ac3486"), looks := false }, told := true, goes := false }
def FnCountsStringParsesBackToldSaid : Prop := Claim7.holds Tryf.pinned (.plain (OpenSpec.ofChange fnCountsStringParsesBackSpec)) fnCountsStringParsesBackCard
/-- ITS FALSE NEIGHBOUR. Refute it at one input. -/
def FnCountsStringParsesBackToldWrongFalsely : Prop := Claim7.holds Tryf.pinned (.plain (OpenSpec.ofChange fnCountsStringParsesBackWrong)) fnCountsStringParsesBackCard

/-- THE TOLD CARD OF 'zzlaws_probe_b1.FnCountsStringMalformedOnlyWhenCounted'. -/
def fnCountsStringMalformedOnlyWhenCountedCard : Claim7 := { stood := { row := fnCountsStringMalformedOnlyWhenCountedRow, standIns := [], harness := (true, "fc1cd1a9adaac1e1249b2ef4969fd2450b052040f12074059542085699ac3486"), looks := false }, told := true, goes := false }
def FnCountsStringMalformedOnlyWhenCountedToldSaid : Prop := Claim7.holds Tryf.pinned (.plain (OpenSpec.ofChange fnCountsStringMalformedOnlyWhenCountedSpec)) fnCountsStringMalformedOnlyWhenCountedCard
/-- ITS FALSE NEIGHBOUR. Refute it at one input. -/
def FnCountsStringMalformedOnlyWhenCountedToldWrongFalsely : Prop := Claim7.holds Tryf.pinned (.plain (OpenSpec.ofChange fnCountsStringMalformedOnlyWhenCountedWrong)) fnCountsStringMalformedOnlyWhenCountedCard
end Rows
end Go.Proofs.Qxb6628627aFmt

/-
  DERIVED. GIVEN WITH THE SEED: THE CARDS: each row of Qxb6605972aFmtRows.lean that lists a variable, with what it lists TIED to the program's text (the seventh form; the later family's looks); each row that meets fmt, with fmt's text TOLD by the authors' own Lean function (tested against real Go, not proved from fmt's source: count such statements apart). THE CARD IS WHAT COUNTS. Prove the row's statement (the work); the ties are given (Qxb6605972aFmtTie.lean); close each card by the builder's one call (the guide's Derived/Test/ToyasCard.lean, 'card_holds'). Laid BY PROGRAM, IN A SANDBOX (cutbox-door.mjs). By AI agents, Wed Nov 11 2026. No macro, syntax, notation, axiom, sorry.
-/
import Derived.Test.Qxb6605972aFmtRows
import GoSem.ClaimSeven
namespace Go.Proofs.Qxb6605972aFmt
namespace Rows

/-- THE TOLD CARD OF 'zzlaws_internal_imaging_b1.FnProgressiveBandAcceptsExactlyTheScansOfTheStandard'. -/
def fnProgressiveBandAcceptsExactlyTheScansOfTheStandardCard : Claim7 := { stood := { row := fnProgressiveBandAcceptsExactlyTheScansOfTheStandardRow, standIns := [], harness := (true, "18957d52b8fc64bf54f74ff49a12e5796a170734de27f6f7adb3b5c391dab4a8"), looks := false }, told := true, goes := false }
def FnProgressiveBandAcceptsExactlyTheScansOfTheStandardToldSaid : Prop := Claim7.holds Tryf.pinned (.plain (OpenSpec.ofChange fnProgressiveBandAcceptsExactlyTheScansOfTheStandardSpec)) fnProgressiveBandAcceptsExactlyTheScansOfTheStandardCard
/-- ITS FALSE NEIGHBOUR. Refute it at one input. -/
def FnProgressiveBandAcceptsExactlyTheScansOfTheStandardToldWrongFalsely : Prop := Claim7.holds Tryf.pinned (.plain (OpenSpec.ofChange fnProgressiveBandAcceptsExactlyTheScansOfTheStandardWrong)) fnProgressiveBandAcceptsExactlyTheScansOfTheStandardCard

/-- THE TOLD CARD OF 'zzlaws_internal_imaging_b1.FnProgressiveBandRefinesWhatItFirstAccepts'. -/
def fnProgressiveBandRefinesWhatItFirstAcceptsCard : Claim7 := { stood := { row := fnProgressiveBandRefinesWhatItFirstAcceptsRow, standIns := [], harness := (true, "18957d52b8fc64bf54f74ff49a12e5796a170734de27f6f7adb3b5c391dab4a8"), looks := false }, told := true, goes := false }
def FnProgressiveBandRefinesWhatItFirstAcceptsToldSaid : Prop := Claim7.holds Tryf.pinned (.plain (OpenSpec.ofChange fnProgressiveBandRefinesWhatItFirstAcceptsSpec)) fnProgressiveBandRefinesWhatItFirstAcceptsCard
/-- ITS FALSE NEIGHBOUR. Refute it at one input. -/
def FnProgressiveBandRefinesWhatItFirstAcceptsToldWrongFalsely : Prop := Claim7.holds Tryf.pinned (.plain (OpenSpec.ofChange fnProgressiveBandRefinesWhatItFirstAcceptsWrong)) fnProgressiveBandRefinesWhatItFirstAcceptsCard
end Rows
end Go.Proofs.Qxb6605972aFmt

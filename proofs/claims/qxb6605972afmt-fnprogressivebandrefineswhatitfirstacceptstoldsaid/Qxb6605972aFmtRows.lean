/-
  No cell of these rows narrows 'for every input' (looked for: loops, veiled, ifaces, maps, wideKeys, modest, calm, conditions, laid).
  DERIVED. THE GIVEN ROWS OF THIS SEAT. 2 by the template 'for every input the law returns true; each argument reads behind the call as it read before'; 0 by the template 'total and deterministic' (their statements: Qxb6605972aFmtTotals.lean).
  GIVEN WITH THE SEED: the statements are not yours to turn. If you find one false, say at which input.
  Laid BY PROGRAM, IN A SANDBOX (cutbox-rows.mjs): the forced cells as the released guide's own fill.sh prints them over the translation a2a2f8ef486eff57… (all of the seat's roots in one cut). By AI agents, Wed Nov 11 2026. No macro, syntax, notation, axiom, sorry.
-/
import Derived.Test.Qxb6605972aFmtChecked
import GoSem.Claim
import GoSem.ClaimJoined
import GoSem.ClaimMapViews
import Derived.JoinedTies
import Derived.KernelRfl
namespace Go.Proofs.Qxb6605972aFmt
/- THE CELL 'sum', in the pinned program and in every row, IS THE sha256 OF THE DUMP (.gsa) THAT Qxb6605972aFmtProg.lean LOADS. Nothing in Lean hashes anything: it is a label: what it is worth is what the hold of that sum in a sandbox is worth. -/
noncomputable def Tryf.pinned : Pinned := { name := "qxb6605972afmt", sum := "a2a2f8ef486eff57964f364e9a87b576ac09228b15af59c9e62c0aaf380c407f", checked := Tryf.checked }
namespace Rows
def none {H : Type} : Left H := { results := [], args := [] }

/-- 'zzlaws_internal_imaging_b1.FnProgressiveBandAcceptsExactlyTheScansOfTheStandard': WHATEVER THE INPUT: true; the input reads as it did. -/
def fnProgressiveBandAcceptsExactlyTheScansOfTheStandardSpec : ChangeSpec := { name := "fnProgressiveBandAcceptsExactlyTheScansOfTheStandard", fn := fun _ => fun
  | [d1, d2, d3, d4, d5] => { results := [.lit (.bool true)], args := [d1, d2, d3, d4, d5] }
  | _ => none }
def fnProgressiveBandAcceptsExactlyTheScansOfTheStandardRow : OpenClaim := { program := "qxb6605972afmt", sum := "a2a2f8ef486eff57964f364e9a87b576ac09228b15af59c9e62c0aaf380c407f", func := "example.com/porchlight/porchlight/zzlaws_internal_imaging_b1.FnProgressiveBandAcceptsExactlyTheScansOfTheStandard", spec := "fnProgressiveBandAcceptsExactlyTheScansOfTheStandard", stops := ["fmt.Sprintf, its operands' methods called"], inPlace := ["fmt.Sprintf"], unfollowed := true, recurses := true, apart := false }
/-- NO THEOREM (fmt's text is open here; it may be false): for the released tool's asking of the row's closed facts alone. THE STATEMENT IS 'FnProgressiveBandAcceptsExactlyTheScansOfTheStandardToldSaid' (Qxb6605972aFmtCards.lean). -/
def FnProgressiveBandAcceptsExactlyTheScansOfTheStandardFormAsk : Prop := fnProgressiveBandAcceptsExactlyTheScansOfTheStandardRow.holds Tryf.pinned (OpenSpec.ofChange fnProgressiveBandAcceptsExactlyTheScansOfTheStandardSpec)

/-- ITS FALSE NEIGHBOUR: 'it returns false'. Refute it at one input. -/
def fnProgressiveBandAcceptsExactlyTheScansOfTheStandardWrong : ChangeSpec := { name := "fnProgressiveBandAcceptsExactlyTheScansOfTheStandard", fn := fun _ => fun
  | [d1, d2, d3, d4, d5] => { results := [.lit (.bool false)], args := [d1, d2, d3, d4, d5] }
  | _ => none }
def FnProgressiveBandAcceptsExactlyTheScansOfTheStandardWrongFormAsk : Prop := fnProgressiveBandAcceptsExactlyTheScansOfTheStandardRow.holds Tryf.pinned (OpenSpec.ofChange fnProgressiveBandAcceptsExactlyTheScansOfTheStandardWrong)

/-- 'zzlaws_internal_imaging_b1.FnProgressiveBandRefinesWhatItFirstAccepts': WHATEVER THE INPUT: true; the input reads as it did. -/
def fnProgressiveBandRefinesWhatItFirstAcceptsSpec : ChangeSpec := { name := "fnProgressiveBandRefinesWhatItFirstAccepts", fn := fun _ => fun
  | [d1, d2, d3, d4, d5] => { results := [.lit (.bool true)], args := [d1, d2, d3, d4, d5] }
  | _ => none }
def fnProgressiveBandRefinesWhatItFirstAcceptsRow : OpenClaim := { program := "qxb6605972afmt", sum := "a2a2f8ef486eff57964f364e9a87b576ac09228b15af59c9e62c0aaf380c407f", func := "example.com/porchlight/porchlight/zzlaws_internal_imaging_b1.FnProgressiveBandRefinesWhatItFirstAccepts", spec := "fnProgressiveBandRefinesWhatItFirstAccepts", stops := ["fmt.Sprintf, its operands' methods called"], inPlace := ["fmt.Sprintf"], unfollowed := true, recurses := true, apart := false }
/-- NO THEOREM (fmt's text is open here; it may be false): for the released tool's asking of the row's closed facts alone. THE STATEMENT IS 'FnProgressiveBandRefinesWhatItFirstAcceptsToldSaid' (Qxb6605972aFmtCards.lean). -/
def FnProgressiveBandRefinesWhatItFirstAcceptsFormAsk : Prop := fnProgressiveBandRefinesWhatItFirstAcceptsRow.holds Tryf.pinned (OpenSpec.ofChange fnProgressiveBandRefinesWhatItFirstAcceptsSpec)

/-- ITS FALSE NEIGHBOUR: 'it returns false'. Refute it at one input. -/
def fnProgressiveBandRefinesWhatItFirstAcceptsWrong : ChangeSpec := { name := "fnProgressiveBandRefinesWhatItFirstAccepts", fn := fun _ => fun
  | [d1, d2, d3, d4, d5] => { results := [.lit (.bool false)], args := [d1, d2, d3, d4, d5] }
  | _ => none }
def FnProgressiveBandRefinesWhatItFirstAcceptsWrongFormAsk : Prop := fnProgressiveBandRefinesWhatItFirstAcceptsRow.holds Tryf.pinned (OpenSpec.ofChange fnProgressiveBandRefinesWhatItFirstAcceptsWrong)

end Rows
end Go.Proofs.Qxb6605972aFmt

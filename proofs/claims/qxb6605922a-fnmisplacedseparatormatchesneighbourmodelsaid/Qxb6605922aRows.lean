/-
  No cell of these rows narrows 'for every input' (looked for: loops, veiled, ifaces, maps, wideKeys, modest, calm, conditions, laid).
  DERIVED. THE GIVEN ROWS OF THIS SEAT. 4 by the template 'for every input the law returns true; each argument reads behind the call as it read before'; 0 by the template 'total and deterministic' (their statements: Qxb6605922aTotals.lean).
  GIVEN WITH THE SEED: the statements are not yours to turn. If you find one false, say at which input.
  Laid BY PROGRAM, IN A SANDBOX (cutbox-rows.mjs): the forced cells as the released guide's own fill.sh prints them over the translation 35e1d1e6e1a2125c… (all of the seat's roots in one cut). By AI agents, Wed Nov 11 2026. No macro, syntax, notation, axiom, sorry.
-/
import Derived.Test.Qxb6605922aChecked
import GoSem.Claim
import GoSem.ClaimJoined
import GoSem.ClaimMapViews
import Derived.JoinedTies
import Derived.KernelRfl
namespace Go.Proofs.Qxb6605922a
/- THE CELL 'sum', in the pinned program and in every row, IS THE sha256 OF THE DUMP (.gsa) THAT Qxb6605922aProg.lean LOADS. Nothing in Lean hashes anything: it is a label: what it is worth is what the hold of that sum in a sandbox is worth. -/
noncomputable def Try.pinned : Pinned := { name := "qxb6605922a", sum := "35e1d1e6e1a2125cb3effaf2c7cb69f4eff241308b0aec8e6f2d7b0a175dd430", checked := Try.checked }
namespace Rows
def none {H : Type} : Left H := { results := [], args := [] }

/-- 'zzlaws_pkg_syntax_b1.FnMisplacedSeparatorMatchesNeighbourModel': WHATEVER THE INPUT: true; the input reads as it did. -/
def fnMisplacedSeparatorMatchesNeighbourModelSpec : ChangeSpec := { name := "fnMisplacedSeparatorMatchesNeighbourModel", fn := fun _ => fun
  | [d1, d2] => { results := [.lit (.bool true)], args := [d1, d2] }
  | _ => none }
def fnMisplacedSeparatorMatchesNeighbourModelRow : OpenClaim := { program := "qxb6605922a", sum := "35e1d1e6e1a2125cb3effaf2c7cb69f4eff241308b0aec8e6f2d7b0a175dd430", func := "example.com/ferriage/ferriage/zzlaws_pkg_syntax_b1.FnMisplacedSeparatorMatchesNeighbourModel", spec := "fnMisplacedSeparatorMatchesNeighbourModel", apart := false }
def FnMisplacedSeparatorMatchesNeighbourModelSaid : Prop := fnMisplacedSeparatorMatchesNeighbourModelRow.holds Try.pinned (OpenSpec.ofChange fnMisplacedSeparatorMatchesNeighbourModelSpec)

/-- ITS FALSE NEIGHBOUR: 'it returns false'. Refute it at one input. -/
def fnMisplacedSeparatorMatchesNeighbourModelWrong : ChangeSpec := { name := "fnMisplacedSeparatorMatchesNeighbourModel", fn := fun _ => fun
  | [d1, d2] => { results := [.lit (.bool false)], args := [d1, d2] }
  | _ => none }
def FnMisplacedSeparatorMatchesNeighbourModelWrongFalsely : Prop := fnMisplacedSeparatorMatchesNeighbourModelRow.holds Try.pinned (OpenSpec.ofChange fnMisplacedSeparatorMatchesNeighbourModelWrong)

/-- 'zzlaws_pkg_syntax_b1.FnMisplacedSeparatorRefusesAtAnUnderscore': WHATEVER THE INPUT: true; the input reads as it did. -/
def fnMisplacedSeparatorRefusesAtAnUnderscoreSpec : ChangeSpec := { name := "fnMisplacedSeparatorRefusesAtAnUnderscore", fn := fun _ => fun
  | [d1, d2] => { results := [.lit (.bool true)], args := [d1, d2] }
  | _ => none }
def fnMisplacedSeparatorRefusesAtAnUnderscoreRow : OpenClaim := { program := "qxb6605922a", sum := "35e1d1e6e1a2125cb3effaf2c7cb69f4eff241308b0aec8e6f2d7b0a175dd430", func := "example.com/ferriage/ferriage/zzlaws_pkg_syntax_b1.FnMisplacedSeparatorRefusesAtAnUnderscore", spec := "fnMisplacedSeparatorRefusesAtAnUnderscore", apart := false }
def FnMisplacedSeparatorRefusesAtAnUnderscoreSaid : Prop := fnMisplacedSeparatorRefusesAtAnUnderscoreRow.holds Try.pinned (OpenSpec.ofChange fnMisplacedSeparatorRefusesAtAnUnderscoreSpec)

/-- ITS FALSE NEIGHBOUR: 'it returns false'. Refute it at one input. -/
def fnMisplacedSeparatorRefusesAtAnUnderscoreWrong : ChangeSpec := { name := "fnMisplacedSeparatorRefusesAtAnUnderscore", fn := fun _ => fun
  | [d1, d2] => { results := [.lit (.bool false)], args := [d1, d2] }
  | _ => none }
def FnMisplacedSeparatorRefusesAtAnUnderscoreWrongFalsely : Prop := fnMisplacedSeparatorRefusesAtAnUnderscoreRow.holds Try.pinned (OpenSpec.ofChange fnMisplacedSeparatorRefusesAtAnUnderscoreWrong)

/-- 'zzlaws_pkg_syntax_b1.FnLowerFoldsASCIILettersOnly': WHATEVER THE INPUT: true; the input reads as it did. -/
def fnLowerFoldsASCIILettersOnlySpec : ChangeSpec := { name := "fnLowerFoldsASCIILettersOnly", fn := fun _ => fun
  | [d] => { results := [.lit (.bool true)], args := [d] }
  | _ => none }
def fnLowerFoldsASCIILettersOnlyRow : OpenClaim := { program := "qxb6605922a", sum := "35e1d1e6e1a2125cb3effaf2c7cb69f4eff241308b0aec8e6f2d7b0a175dd430", func := "example.com/ferriage/ferriage/zzlaws_pkg_syntax_b1.FnLowerFoldsASCIILettersOnly", spec := "fnLowerFoldsASCIILettersOnly", apart := false }
def FnLowerFoldsASCIILettersOnlySaid : Prop := fnLowerFoldsASCIILettersOnlyRow.holds Try.pinned (OpenSpec.ofChange fnLowerFoldsASCIILettersOnlySpec)

/-- ITS FALSE NEIGHBOUR: 'it returns false'. Refute it at one input. -/
def fnLowerFoldsASCIILettersOnlyWrong : ChangeSpec := { name := "fnLowerFoldsASCIILettersOnly", fn := fun _ => fun
  | [d] => { results := [.lit (.bool false)], args := [d] }
  | _ => none }
def FnLowerFoldsASCIILettersOnlyWrongFalsely : Prop := fnLowerFoldsASCIILettersOnlyRow.holds Try.pinned (OpenSpec.ofChange fnLowerFoldsASCIILettersOnlyWrong)

/-- 'zzlaws_pkg_syntax_b1.FnLowerMatchesLettersCaseInsensitively': WHATEVER THE INPUT: true; the input reads as it did. -/
def fnLowerMatchesLettersCaseInsensitivelySpec : ChangeSpec := { name := "fnLowerMatchesLettersCaseInsensitively", fn := fun _ => fun
  | [d1, d2] => { results := [.lit (.bool true)], args := [d1, d2] }
  | _ => none }
def fnLowerMatchesLettersCaseInsensitivelyRow : OpenClaim := { program := "qxb6605922a", sum := "35e1d1e6e1a2125cb3effaf2c7cb69f4eff241308b0aec8e6f2d7b0a175dd430", func := "example.com/ferriage/ferriage/zzlaws_pkg_syntax_b1.FnLowerMatchesLettersCaseInsensitively", spec := "fnLowerMatchesLettersCaseInsensitively", apart := false }
def FnLowerMatchesLettersCaseInsensitivelySaid : Prop := fnLowerMatchesLettersCaseInsensitivelyRow.holds Try.pinned (OpenSpec.ofChange fnLowerMatchesLettersCaseInsensitivelySpec)

/-- ITS FALSE NEIGHBOUR: 'it returns false'. Refute it at one input. -/
def fnLowerMatchesLettersCaseInsensitivelyWrong : ChangeSpec := { name := "fnLowerMatchesLettersCaseInsensitively", fn := fun _ => fun
  | [d1, d2] => { results := [.lit (.bool false)], args := [d1, d2] }
  | _ => none }
def FnLowerMatchesLettersCaseInsensitivelyWrongFalsely : Prop := fnLowerMatchesLettersCaseInsensitivelyRow.holds Try.pinned (OpenSpec.ofChange fnLowerMatchesLettersCaseInsensitivelyWrong)

end Rows
end Go.Proofs.Qxb6605922a

/-
  No cell of these rows narrows 'for every input' (looked for: loops, veiled, ifaces, maps, wideKeys, modest, calm, conditions, laid).
  DERIVED. THE GIVEN ROWS OF THIS SEAT. 7 by the template 'for every input the law returns true; each argument reads behind the call as it read before'; 0 by the template 'total and deterministic' (their statements: Qxb6000618aTotals.lean).
  GIVEN WITH THE SEED: the statements are not yours to turn. If you find one false, say at which input.
  Laid BY PROGRAM, IN A SANDBOX (cutbox-rows.mjs): the forced cells as the released guide's own fill.sh prints them over the translation 34fc156dc911627c… (all of the seat's roots in one cut). By AI agents, Wed Nov 11 2026. No macro, syntax, notation, axiom, sorry.
-/
import Derived.Test.Qxb6000618aChecked
import GoSem.Claim
import GoSem.ClaimJoined
import GoSem.ClaimMapViews
import Derived.JoinedTies
import Derived.KernelRfl
namespace Go.Proofs.Qxb6000618a
/- THE CELL 'sum', in the pinned program and in every row, IS THE sha256 OF THE DUMP (.gsa) THAT Qxb6000618aProg.lean LOADS. Nothing in Lean hashes anything: it is a label: what it is worth is what the hold of that sum in a sandbox is worth. -/
noncomputable def Try.pinned : Pinned := { name := "qxb6000618a", sum := "34fc156dc911627c6b09b3bfbff83290cd79064d5a590c51ef9afb8c27b56ba8", checked := Try.checked }
namespace Rows
def none {H : Type} : Left H := { results := [], args := [] }

/-- 'zzlaws_pkg_tomlfile_b1.FnDecimalDigitsMatchesRunModel': WHATEVER THE INPUT: true; the input reads as it did. -/
def fnDecimalDigitsMatchesRunModelSpec : ChangeSpec := { name := "fnDecimalDigitsMatchesRunModel", fn := fun _ => fun
  | [d1, d2] => { results := [.lit (.bool true)], args := [d1, d2] }
  | _ => none }
def fnDecimalDigitsMatchesRunModelRow : OpenClaim := { program := "qxb6000618a", sum := "34fc156dc911627c6b09b3bfbff83290cd79064d5a590c51ef9afb8c27b56ba8", func := "example.com/vestline/vestline/zzlaws_pkg_tomlfile_b1.FnDecimalDigitsMatchesRunModel", spec := "fnDecimalDigitsMatchesRunModel", apart := false }
def FnDecimalDigitsMatchesRunModelSaid : Prop := fnDecimalDigitsMatchesRunModelRow.holds Try.pinned (OpenSpec.ofChange fnDecimalDigitsMatchesRunModelSpec)

/-- ITS FALSE NEIGHBOUR: 'it returns false'. Refute it at one input. -/
def fnDecimalDigitsMatchesRunModelWrong : ChangeSpec := { name := "fnDecimalDigitsMatchesRunModel", fn := fun _ => fun
  | [d1, d2] => { results := [.lit (.bool false)], args := [d1, d2] }
  | _ => none }
def FnDecimalDigitsMatchesRunModelWrongFalsely : Prop := fnDecimalDigitsMatchesRunModelRow.holds Try.pinned (OpenSpec.ofChange fnDecimalDigitsMatchesRunModelWrong)

/-- 'zzlaws_pkg_tomlfile_b1.FnDecimalDigitsShiftedByPrefix': WHATEVER THE INPUT: true; the input reads as it did. -/
def fnDecimalDigitsShiftedByPrefixSpec : ChangeSpec := { name := "fnDecimalDigitsShiftedByPrefix", fn := fun _ => fun
  | [d1, d2, d3] => { results := [.lit (.bool true)], args := [d1, d2, d3] }
  | _ => none }
def fnDecimalDigitsShiftedByPrefixRow : OpenClaim := { program := "qxb6000618a", sum := "34fc156dc911627c6b09b3bfbff83290cd79064d5a590c51ef9afb8c27b56ba8", func := "example.com/vestline/vestline/zzlaws_pkg_tomlfile_b1.FnDecimalDigitsShiftedByPrefix", spec := "fnDecimalDigitsShiftedByPrefix", apart := false }
def FnDecimalDigitsShiftedByPrefixSaid : Prop := fnDecimalDigitsShiftedByPrefixRow.holds Try.pinned (OpenSpec.ofChange fnDecimalDigitsShiftedByPrefixSpec)

/-- ITS FALSE NEIGHBOUR: 'it returns false'. Refute it at one input. -/
def fnDecimalDigitsShiftedByPrefixWrong : ChangeSpec := { name := "fnDecimalDigitsShiftedByPrefix", fn := fun _ => fun
  | [d1, d2, d3] => { results := [.lit (.bool false)], args := [d1, d2, d3] }
  | _ => none }
def FnDecimalDigitsShiftedByPrefixWrongFalsely : Prop := fnDecimalDigitsShiftedByPrefixRow.holds Try.pinned (OpenSpec.ofChange fnDecimalDigitsShiftedByPrefixWrong)

/-- 'zzlaws_pkg_tomlfile_b1.FnIsFloatMatchesAutomaton': WHATEVER THE INPUT: true; the input reads as it did. -/
def fnIsFloatMatchesAutomatonSpec : ChangeSpec := { name := "fnIsFloatMatchesAutomaton", fn := fun _ => fun
  | [d] => { results := [.lit (.bool true)], args := [d] }
  | _ => none }
def fnIsFloatMatchesAutomatonRow : OpenClaim := { program := "qxb6000618a", sum := "34fc156dc911627c6b09b3bfbff83290cd79064d5a590c51ef9afb8c27b56ba8", func := "example.com/vestline/vestline/zzlaws_pkg_tomlfile_b1.FnIsFloatMatchesAutomaton", spec := "fnIsFloatMatchesAutomaton", apart := false }
def FnIsFloatMatchesAutomatonSaid : Prop := fnIsFloatMatchesAutomatonRow.holds Try.pinned (OpenSpec.ofChange fnIsFloatMatchesAutomatonSpec)

/-- ITS FALSE NEIGHBOUR: 'it returns false'. Refute it at one input. -/
def fnIsFloatMatchesAutomatonWrong : ChangeSpec := { name := "fnIsFloatMatchesAutomaton", fn := fun _ => fun
  | [d] => { results := [.lit (.bool false)], args := [d] }
  | _ => none }
def FnIsFloatMatchesAutomatonWrongFalsely : Prop := fnIsFloatMatchesAutomatonRow.holds Try.pinned (OpenSpec.ofChange fnIsFloatMatchesAutomatonWrong)

/-- 'zzlaws_pkg_tomlfile_b1.FnIsFloatSignDoesNotMatter': WHATEVER THE INPUT: true; the input reads as it did. -/
def fnIsFloatSignDoesNotMatterSpec : ChangeSpec := { name := "fnIsFloatSignDoesNotMatter", fn := fun _ => fun
  | [d] => { results := [.lit (.bool true)], args := [d] }
  | _ => none }
def fnIsFloatSignDoesNotMatterRow : OpenClaim := { program := "qxb6000618a", sum := "34fc156dc911627c6b09b3bfbff83290cd79064d5a590c51ef9afb8c27b56ba8", func := "example.com/vestline/vestline/zzlaws_pkg_tomlfile_b1.FnIsFloatSignDoesNotMatter", spec := "fnIsFloatSignDoesNotMatter", apart := false }
def FnIsFloatSignDoesNotMatterSaid : Prop := fnIsFloatSignDoesNotMatterRow.holds Try.pinned (OpenSpec.ofChange fnIsFloatSignDoesNotMatterSpec)

/-- ITS FALSE NEIGHBOUR: 'it returns false'. Refute it at one input. -/
def fnIsFloatSignDoesNotMatterWrong : ChangeSpec := { name := "fnIsFloatSignDoesNotMatter", fn := fun _ => fun
  | [d] => { results := [.lit (.bool false)], args := [d] }
  | _ => none }
def FnIsFloatSignDoesNotMatterWrongFalsely : Prop := fnIsFloatSignDoesNotMatterRow.holds Try.pinned (OpenSpec.ofChange fnIsFloatSignDoesNotMatterWrong)

/-- 'zzlaws_pkg_tomlfile_b1.FnIsFloatKeepsWithoutUnderscores': WHATEVER THE INPUT: true; the input reads as it did. -/
def fnIsFloatKeepsWithoutUnderscoresSpec : ChangeSpec := { name := "fnIsFloatKeepsWithoutUnderscores", fn := fun _ => fun
  | [d] => { results := [.lit (.bool true)], args := [d] }
  | _ => none }
def fnIsFloatKeepsWithoutUnderscoresRow : OpenClaim := { program := "qxb6000618a", sum := "34fc156dc911627c6b09b3bfbff83290cd79064d5a590c51ef9afb8c27b56ba8", func := "example.com/vestline/vestline/zzlaws_pkg_tomlfile_b1.FnIsFloatKeepsWithoutUnderscores", spec := "fnIsFloatKeepsWithoutUnderscores", apart := false }
def FnIsFloatKeepsWithoutUnderscoresSaid : Prop := fnIsFloatKeepsWithoutUnderscoresRow.holds Try.pinned (OpenSpec.ofChange fnIsFloatKeepsWithoutUnderscoresSpec)

/-- ITS FALSE NEIGHBOUR: 'it returns false'. Refute it at one input. -/
def fnIsFloatKeepsWithoutUnderscoresWrong : ChangeSpec := { name := "fnIsFloatKeepsWithoutUnderscores", fn := fun _ => fun
  | [d] => { results := [.lit (.bool false)], args := [d] }
  | _ => none }
def FnIsFloatKeepsWithoutUnderscoresWrongFalsely : Prop := fnIsFloatKeepsWithoutUnderscoresRow.holds Try.pinned (OpenSpec.ofChange fnIsFloatKeepsWithoutUnderscoresWrong)

/-- 'zzlaws_pkg_tomlfile_b1.FnReadTimeRoundTrip': WHATEVER THE INPUT: true; the input reads as it did. -/
def fnReadTimeRoundTripSpec : ChangeSpec := { name := "fnReadTimeRoundTrip", fn := fun _ => fun
  | [d1, d2, d3, d4, d5, d6] => { results := [.lit (.bool true)], args := [d1, d2, d3, d4, d5, d6] }
  | _ => none }
def fnReadTimeRoundTripRow : OpenClaim := { program := "qxb6000618a", sum := "34fc156dc911627c6b09b3bfbff83290cd79064d5a590c51ef9afb8c27b56ba8", func := "example.com/vestline/vestline/zzlaws_pkg_tomlfile_b1.FnReadTimeRoundTrip", spec := "fnReadTimeRoundTrip", inPlace := ["internal/abi.NoEscape", "internal/bytealg.MakeNoZero"], apart := false }
def FnReadTimeRoundTripSaid : Prop := fnReadTimeRoundTripRow.holds Try.pinned (OpenSpec.ofChange fnReadTimeRoundTripSpec)

/-- ITS FALSE NEIGHBOUR: 'it returns false'. Refute it at one input. -/
def fnReadTimeRoundTripWrong : ChangeSpec := { name := "fnReadTimeRoundTrip", fn := fun _ => fun
  | [d1, d2, d3, d4, d5, d6] => { results := [.lit (.bool false)], args := [d1, d2, d3, d4, d5, d6] }
  | _ => none }
def FnReadTimeRoundTripWrongFalsely : Prop := fnReadTimeRoundTripRow.holds Try.pinned (OpenSpec.ofChange fnReadTimeRoundTripWrong)

/-- 'zzlaws_pkg_tomlfile_b1.FnReadTimeResultsInRange': WHATEVER THE INPUT: true; the input reads as it did. -/
def fnReadTimeResultsInRangeSpec : ChangeSpec := { name := "fnReadTimeResultsInRange", fn := fun _ => fun
  | [d] => { results := [.lit (.bool true)], args := [d] }
  | _ => none }
def fnReadTimeResultsInRangeRow : OpenClaim := { program := "qxb6000618a", sum := "34fc156dc911627c6b09b3bfbff83290cd79064d5a590c51ef9afb8c27b56ba8", func := "example.com/vestline/vestline/zzlaws_pkg_tomlfile_b1.FnReadTimeResultsInRange", spec := "fnReadTimeResultsInRange", inPlace := ["internal/abi.NoEscape", "internal/bytealg.MakeNoZero"], apart := false }
def FnReadTimeResultsInRangeSaid : Prop := fnReadTimeResultsInRangeRow.holds Try.pinned (OpenSpec.ofChange fnReadTimeResultsInRangeSpec)

/-- ITS FALSE NEIGHBOUR: 'it returns false'. Refute it at one input. -/
def fnReadTimeResultsInRangeWrong : ChangeSpec := { name := "fnReadTimeResultsInRange", fn := fun _ => fun
  | [d] => { results := [.lit (.bool false)], args := [d] }
  | _ => none }
def FnReadTimeResultsInRangeWrongFalsely : Prop := fnReadTimeResultsInRangeRow.holds Try.pinned (OpenSpec.ofChange fnReadTimeResultsInRangeWrong)

end Rows
end Go.Proofs.Qxb6000618a

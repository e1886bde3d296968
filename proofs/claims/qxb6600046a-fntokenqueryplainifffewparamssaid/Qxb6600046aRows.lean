/-
  No cell of these rows narrows 'for every input' (looked for: loops, veiled, ifaces, maps, wideKeys, modest, calm, conditions, laid).
  DERIVED. THE GIVEN ROWS OF THIS SEAT. 5 by the template 'for every input the law returns true; each argument reads behind the call as it read before'; 0 by the template 'total and deterministic' (their statements: Qxb6600046aTotals.lean).
  GIVEN WITH THE SEED: the statements are not yours to turn. If you find one false, say at which input.
  Laid BY PROGRAM, IN A SANDBOX (cutbox-rows.mjs): the forced cells as the released guide's own fill.sh prints them over the translation 36417aaf7d96402d… (all of the seat's roots in one cut). By AI agents, Wed Nov 11 2026. No macro, syntax, notation, axiom, sorry.
-/
import Derived.Test.Qxb6600046aChecked
import GoSem.Claim
import GoSem.ClaimJoined
import GoSem.ClaimMapViews
import Derived.JoinedTies
import Derived.KernelRfl
namespace Go.Proofs.Qxb6600046a
/- THE CELL 'sum', in the pinned program and in every row, IS THE sha256 OF THE DUMP (.gsa) THAT Qxb6600046aProg.lean LOADS. Nothing in Lean hashes anything: it is a label: what it is worth is what the hold of that sum in a sandbox is worth. -/
noncomputable def Try.pinned : Pinned := { name := "qxb6600046a", sum := "36417aaf7d96402d8fda985a6adb1755ea97d29e46498ba96b94df1a27720fe8", checked := Try.checked }
namespace Rows
def none {H : Type} : Left H := { results := [], args := [] }

/-- 'zzlaws_upstream_b1.FnPlainQueryJoinByAmpersand': WHATEVER THE INPUT: true; the input reads as it did. -/
def fnPlainQueryJoinByAmpersandSpec : ChangeSpec := { name := "fnPlainQueryJoinByAmpersand", fn := fun _ => fun
  | [d1, d2] => { results := [.lit (.bool true)], args := [d1, d2] }
  | _ => none }
def fnPlainQueryJoinByAmpersandRow : OpenClaim := { program := "qxb6600046a", sum := "36417aaf7d96402d8fda985a6adb1755ea97d29e46498ba96b94df1a27720fe8", func := "example.com/lychgate/lychgate/zzlaws_upstream_b1.FnPlainQueryJoinByAmpersand", spec := "fnPlainQueryJoinByAmpersand", apart := false }
def FnPlainQueryJoinByAmpersandSaid : Prop := fnPlainQueryJoinByAmpersandRow.holds Try.pinned (OpenSpec.ofChange fnPlainQueryJoinByAmpersandSpec)

/-- ITS FALSE NEIGHBOUR: 'it returns false'. Refute it at one input. -/
def fnPlainQueryJoinByAmpersandWrong : ChangeSpec := { name := "fnPlainQueryJoinByAmpersand", fn := fun _ => fun
  | [d1, d2] => { results := [.lit (.bool false)], args := [d1, d2] }
  | _ => none }
def FnPlainQueryJoinByAmpersandWrongFalsely : Prop := fnPlainQueryJoinByAmpersandRow.holds Try.pinned (OpenSpec.ofChange fnPlainQueryJoinByAmpersandWrong)

/-- 'zzlaws_upstream_b1.FnPlainQueryRefusesForbiddenByte': WHATEVER THE INPUT: true; the input reads as it did. -/
def fnPlainQueryRefusesForbiddenByteSpec : ChangeSpec := { name := "fnPlainQueryRefusesForbiddenByte", fn := fun _ => fun
  | [d1, d2, d3] => { results := [.lit (.bool true)], args := [d1, d2, d3] }
  | _ => none }
def fnPlainQueryRefusesForbiddenByteRow : OpenClaim := { program := "qxb6600046a", sum := "36417aaf7d96402d8fda985a6adb1755ea97d29e46498ba96b94df1a27720fe8", func := "example.com/lychgate/lychgate/zzlaws_upstream_b1.FnPlainQueryRefusesForbiddenByte", spec := "fnPlainQueryRefusesForbiddenByte", apart := false }
def FnPlainQueryRefusesForbiddenByteSaid : Prop := fnPlainQueryRefusesForbiddenByteRow.holds Try.pinned (OpenSpec.ofChange fnPlainQueryRefusesForbiddenByteSpec)

/-- ITS FALSE NEIGHBOUR: 'it returns false'. Refute it at one input. -/
def fnPlainQueryRefusesForbiddenByteWrong : ChangeSpec := { name := "fnPlainQueryRefusesForbiddenByte", fn := fun _ => fun
  | [d1, d2, d3] => { results := [.lit (.bool false)], args := [d1, d2, d3] }
  | _ => none }
def FnPlainQueryRefusesForbiddenByteWrongFalsely : Prop := fnPlainQueryRefusesForbiddenByteRow.holds Try.pinned (OpenSpec.ofChange fnPlainQueryRefusesForbiddenByteWrong)

/-- 'zzlaws_upstream_b1.FnPlainQueryEscapeNeedsTwoHexDigits': WHATEVER THE INPUT: true; the input reads as it did. -/
def fnPlainQueryEscapeNeedsTwoHexDigitsSpec : ChangeSpec := { name := "fnPlainQueryEscapeNeedsTwoHexDigits", fn := fun _ => fun
  | [d1, d2, d3] => { results := [.lit (.bool true)], args := [d1, d2, d3] }
  | _ => none }
def fnPlainQueryEscapeNeedsTwoHexDigitsRow : OpenClaim := { program := "qxb6600046a", sum := "36417aaf7d96402d8fda985a6adb1755ea97d29e46498ba96b94df1a27720fe8", func := "example.com/lychgate/lychgate/zzlaws_upstream_b1.FnPlainQueryEscapeNeedsTwoHexDigits", spec := "fnPlainQueryEscapeNeedsTwoHexDigits", apart := false }
def FnPlainQueryEscapeNeedsTwoHexDigitsSaid : Prop := fnPlainQueryEscapeNeedsTwoHexDigitsRow.holds Try.pinned (OpenSpec.ofChange fnPlainQueryEscapeNeedsTwoHexDigitsSpec)

/-- ITS FALSE NEIGHBOUR: 'it returns false'. Refute it at one input. -/
def fnPlainQueryEscapeNeedsTwoHexDigitsWrong : ChangeSpec := { name := "fnPlainQueryEscapeNeedsTwoHexDigits", fn := fun _ => fun
  | [d1, d2, d3] => { results := [.lit (.bool false)], args := [d1, d2, d3] }
  | _ => none }
def FnPlainQueryEscapeNeedsTwoHexDigitsWrongFalsely : Prop := fnPlainQueryEscapeNeedsTwoHexDigitsRow.holds Try.pinned (OpenSpec.ofChange fnPlainQueryEscapeNeedsTwoHexDigitsWrong)

/-- 'zzlaws_upstream_b1.FnIsTokenCharIsVisibleNonDelimiter': WHATEVER THE INPUT: true; the input reads as it did. -/
def fnIsTokenCharIsVisibleNonDelimiterSpec : ChangeSpec := { name := "fnIsTokenCharIsVisibleNonDelimiter", fn := fun _ => fun
  | [d] => { results := [.lit (.bool true)], args := [d] }
  | _ => none }
def fnIsTokenCharIsVisibleNonDelimiterRow : OpenClaim := { program := "qxb6600046a", sum := "36417aaf7d96402d8fda985a6adb1755ea97d29e46498ba96b94df1a27720fe8", func := "example.com/lychgate/lychgate/zzlaws_upstream_b1.FnIsTokenCharIsVisibleNonDelimiter", spec := "fnIsTokenCharIsVisibleNonDelimiter", apart := false }
def FnIsTokenCharIsVisibleNonDelimiterSaid : Prop := fnIsTokenCharIsVisibleNonDelimiterRow.holds Try.pinned (OpenSpec.ofChange fnIsTokenCharIsVisibleNonDelimiterSpec)

/-- ITS FALSE NEIGHBOUR: 'it returns false'. Refute it at one input. -/
def fnIsTokenCharIsVisibleNonDelimiterWrong : ChangeSpec := { name := "fnIsTokenCharIsVisibleNonDelimiter", fn := fun _ => fun
  | [d] => { results := [.lit (.bool false)], args := [d] }
  | _ => none }
def FnIsTokenCharIsVisibleNonDelimiterWrongFalsely : Prop := fnIsTokenCharIsVisibleNonDelimiterRow.holds Try.pinned (OpenSpec.ofChange fnIsTokenCharIsVisibleNonDelimiterWrong)

/-- 'zzlaws_upstream_b1.FnTokenQueryPlainIffFewParams': WHATEVER THE INPUT: true; the input reads as it did. -/
def fnTokenQueryPlainIffFewParamsSpec : ChangeSpec := { name := "fnTokenQueryPlainIffFewParams", fn := fun _ => fun
  | [d] => { results := [.lit (.bool true)], args := [d] }
  | _ => none }
def fnTokenQueryPlainIffFewParamsRow : OpenClaim := { program := "qxb6600046a", sum := "36417aaf7d96402d8fda985a6adb1755ea97d29e46498ba96b94df1a27720fe8", func := "example.com/lychgate/lychgate/zzlaws_upstream_b1.FnTokenQueryPlainIffFewParams", spec := "fnTokenQueryPlainIffFewParams", apart := false }
def FnTokenQueryPlainIffFewParamsSaid : Prop := fnTokenQueryPlainIffFewParamsRow.holds Try.pinned (OpenSpec.ofChange fnTokenQueryPlainIffFewParamsSpec)

/-- ITS FALSE NEIGHBOUR: 'it returns false'. Refute it at one input. -/
def fnTokenQueryPlainIffFewParamsWrong : ChangeSpec := { name := "fnTokenQueryPlainIffFewParams", fn := fun _ => fun
  | [d] => { results := [.lit (.bool false)], args := [d] }
  | _ => none }
def FnTokenQueryPlainIffFewParamsWrongFalsely : Prop := fnTokenQueryPlainIffFewParamsRow.holds Try.pinned (OpenSpec.ofChange fnTokenQueryPlainIffFewParamsWrong)

end Rows
end Go.Proofs.Qxb6600046a

/-
  No cell of these rows narrows 'for every input' (looked for: loops, veiled, ifaces, maps, wideKeys, modest, calm, conditions, laid).
  DERIVED. THE GIVEN ROWS OF THIS SEAT. 6 by the template 'for every input the law returns true; each argument reads behind the call as it read before'; 0 by the template 'total and deterministic' (their statements: Qxb6601022aTotals.lean).
  GIVEN WITH THE SEED: the statements are not yours to turn. If you find one false, say at which input.
  Laid BY PROGRAM, IN A SANDBOX (cutbox-rows.mjs): the forced cells as the released guide's own fill.sh prints them over the translation 2734d2463a1f0f4f… (all of the seat's roots in one cut). By AI agents, Wed Nov 11 2026. No macro, syntax, notation, axiom, sorry.
-/
import Derived.Test.Qxb6601022aChecked
import GoSem.Claim
import GoSem.ClaimJoined
import GoSem.ClaimMapViews
import Derived.JoinedTies
import Derived.KernelRfl
namespace Go.Proofs.Qxb6601022a
/- THE CELL 'sum', in the pinned program and in every row, IS THE sha256 OF THE DUMP (.gsa) THAT Qxb6601022aProg.lean LOADS. Nothing in Lean hashes anything: it is a label: what it is worth is what the hold of that sum in a sandbox is worth. -/
noncomputable def Try.pinned : Pinned := { name := "qxb6601022a", sum := "2734d2463a1f0f4fc1e64d30689dba71be02d9679252963f1eb4924847c7962d", checked := Try.checked }
namespace Rows
def none {H : Type} : Left H := { results := [], args := [] }

/-- 'zzlaws_shell_b1.FnBuiltinOptionsRoundTrip': WHATEVER THE INPUT: true; the input reads as it did. -/
def fnBuiltinOptionsRoundTripSpec : ChangeSpec := { name := "fnBuiltinOptionsRoundTrip", fn := fun _ => fun
  | [d1, d2, d3, d4] => { results := [.lit (.bool true)], args := [d1, d2, d3, d4] }
  | _ => none }
def fnBuiltinOptionsRoundTripRow : OpenClaim := { program := "qxb6601022a", sum := "2734d2463a1f0f4fc1e64d30689dba71be02d9679252963f1eb4924847c7962d", func := "example.com/gate3/gate3/zzlaws_shell_b1.FnBuiltinOptionsRoundTrip", spec := "fnBuiltinOptionsRoundTrip", inPlace := ["internal/bytealg.IndexByteString"], apart := false }
def FnBuiltinOptionsRoundTripSaid : Prop := fnBuiltinOptionsRoundTripRow.holds Try.pinned (OpenSpec.ofChange fnBuiltinOptionsRoundTripSpec)

/-- ITS FALSE NEIGHBOUR: 'it returns false'. Refute it at one input. -/
def fnBuiltinOptionsRoundTripWrong : ChangeSpec := { name := "fnBuiltinOptionsRoundTrip", fn := fun _ => fun
  | [d1, d2, d3, d4] => { results := [.lit (.bool false)], args := [d1, d2, d3, d4] }
  | _ => none }
def FnBuiltinOptionsRoundTripWrongFalsely : Prop := fnBuiltinOptionsRoundTripRow.holds Try.pinned (OpenSpec.ofChange fnBuiltinOptionsRoundTripWrong)

/-- 'zzlaws_shell_b1.FnBuiltinOptionsRefuses': WHATEVER THE INPUT: true; the input reads as it did. -/
def fnBuiltinOptionsRefusesSpec : ChangeSpec := { name := "fnBuiltinOptionsRefuses", fn := fun _ => fun
  | [d1, d2, d3, d4, d5, d6, d7] => { results := [.lit (.bool true)], args := [d1, d2, d3, d4, d5, d6, d7] }
  | _ => none }
def fnBuiltinOptionsRefusesRow : OpenClaim := { program := "qxb6601022a", sum := "2734d2463a1f0f4fc1e64d30689dba71be02d9679252963f1eb4924847c7962d", func := "example.com/gate3/gate3/zzlaws_shell_b1.FnBuiltinOptionsRefuses", spec := "fnBuiltinOptionsRefuses", inPlace := ["internal/bytealg.IndexByteString"], apart := false }
def FnBuiltinOptionsRefusesSaid : Prop := fnBuiltinOptionsRefusesRow.holds Try.pinned (OpenSpec.ofChange fnBuiltinOptionsRefusesSpec)

/-- ITS FALSE NEIGHBOUR: 'it returns false'. Refute it at one input. -/
def fnBuiltinOptionsRefusesWrong : ChangeSpec := { name := "fnBuiltinOptionsRefuses", fn := fun _ => fun
  | [d1, d2, d3, d4, d5, d6, d7] => { results := [.lit (.bool false)], args := [d1, d2, d3, d4, d5, d6, d7] }
  | _ => none }
def FnBuiltinOptionsRefusesWrongFalsely : Prop := fnBuiltinOptionsRefusesRow.holds Try.pinned (OpenSpec.ofChange fnBuiltinOptionsRefusesWrong)

/-- 'zzlaws_shell_b1.FnWriteEscapedHexRoundTrip': WHATEVER THE INPUT: true; the input reads as it did. -/
def fnWriteEscapedHexRoundTripSpec : ChangeSpec := { name := "fnWriteEscapedHexRoundTrip", fn := fun _ => fun
  | [d1, d2, d3, d4, d5, d6, d7, d8, d9] => { results := [.lit (.bool true)], args := [d1, d2, d3, d4, d5, d6, d7, d8, d9] }
  | _ => none }
def fnWriteEscapedHexRoundTripRow : OpenClaim := { program := "qxb6601022a", sum := "2734d2463a1f0f4fc1e64d30689dba71be02d9679252963f1eb4924847c7962d", func := "example.com/gate3/gate3/zzlaws_shell_b1.FnWriteEscapedHexRoundTrip", spec := "fnWriteEscapedHexRoundTrip", inPlace := ["internal/abi.NoEscape"], apart := false }
def FnWriteEscapedHexRoundTripSaid : Prop := fnWriteEscapedHexRoundTripRow.holds Try.pinned (OpenSpec.ofChange fnWriteEscapedHexRoundTripSpec)

/-- ITS FALSE NEIGHBOUR: 'it returns false'. Refute it at one input. -/
def fnWriteEscapedHexRoundTripWrong : ChangeSpec := { name := "fnWriteEscapedHexRoundTrip", fn := fun _ => fun
  | [d1, d2, d3, d4, d5, d6, d7, d8, d9] => { results := [.lit (.bool false)], args := [d1, d2, d3, d4, d5, d6, d7, d8, d9] }
  | _ => none }
def FnWriteEscapedHexRoundTripWrongFalsely : Prop := fnWriteEscapedHexRoundTripRow.holds Try.pinned (OpenSpec.ofChange fnWriteEscapedHexRoundTripWrong)

/-- 'zzlaws_shell_b1.FnWriteEscapedOctalRoundTrip': WHATEVER THE INPUT: true; the input reads as it did. -/
def fnWriteEscapedOctalRoundTripSpec : ChangeSpec := { name := "fnWriteEscapedOctalRoundTrip", fn := fun _ => fun
  | [d1, d2, d3, d4, d5, d6, d7] => { results := [.lit (.bool true)], args := [d1, d2, d3, d4, d5, d6, d7] }
  | _ => none }
def fnWriteEscapedOctalRoundTripRow : OpenClaim := { program := "qxb6601022a", sum := "2734d2463a1f0f4fc1e64d30689dba71be02d9679252963f1eb4924847c7962d", func := "example.com/gate3/gate3/zzlaws_shell_b1.FnWriteEscapedOctalRoundTrip", spec := "fnWriteEscapedOctalRoundTrip", inPlace := ["internal/abi.NoEscape"], apart := false }
def FnWriteEscapedOctalRoundTripSaid : Prop := fnWriteEscapedOctalRoundTripRow.holds Try.pinned (OpenSpec.ofChange fnWriteEscapedOctalRoundTripSpec)

/-- ITS FALSE NEIGHBOUR: 'it returns false'. Refute it at one input. -/
def fnWriteEscapedOctalRoundTripWrong : ChangeSpec := { name := "fnWriteEscapedOctalRoundTrip", fn := fun _ => fun
  | [d1, d2, d3, d4, d5, d6, d7] => { results := [.lit (.bool false)], args := [d1, d2, d3, d4, d5, d6, d7] }
  | _ => none }
def FnWriteEscapedOctalRoundTripWrongFalsely : Prop := fnWriteEscapedOctalRoundTripRow.holds Try.pinned (OpenSpec.ofChange fnWriteEscapedOctalRoundTripWrong)

/-- 'zzlaws_shell_b1.FnWriteEscapedUnicodeUTF8': WHATEVER THE INPUT: true; the input reads as it did. -/
def fnWriteEscapedUnicodeUTF8Spec : ChangeSpec := { name := "fnWriteEscapedUnicodeUTF8", fn := fun _ => fun
  | [d1, d2, d3, d4, d5, d6, d7, d8, d9] => { results := [.lit (.bool true)], args := [d1, d2, d3, d4, d5, d6, d7, d8, d9] }
  | _ => none }
def fnWriteEscapedUnicodeUTF8Row : OpenClaim := { program := "qxb6601022a", sum := "2734d2463a1f0f4fc1e64d30689dba71be02d9679252963f1eb4924847c7962d", func := "example.com/gate3/gate3/zzlaws_shell_b1.FnWriteEscapedUnicodeUTF8", spec := "fnWriteEscapedUnicodeUTF8", inPlace := ["internal/abi.NoEscape"], apart := false }
def FnWriteEscapedUnicodeUTF8Said : Prop := fnWriteEscapedUnicodeUTF8Row.holds Try.pinned (OpenSpec.ofChange fnWriteEscapedUnicodeUTF8Spec)

/-- ITS FALSE NEIGHBOUR: 'it returns false'. Refute it at one input. -/
def fnWriteEscapedUnicodeUTF8Wrong : ChangeSpec := { name := "fnWriteEscapedUnicodeUTF8", fn := fun _ => fun
  | [d1, d2, d3, d4, d5, d6, d7, d8, d9] => { results := [.lit (.bool false)], args := [d1, d2, d3, d4, d5, d6, d7, d8, d9] }
  | _ => none }
def FnWriteEscapedUnicodeUTF8WrongFalsely : Prop := fnWriteEscapedUnicodeUTF8Row.holds Try.pinned (OpenSpec.ofChange fnWriteEscapedUnicodeUTF8Wrong)

/-- 'zzlaws_shell_b1.FnWriteEscapedBackslashC': WHATEVER THE INPUT: true; the input reads as it did. -/
def fnWriteEscapedBackslashCSpec : ChangeSpec := { name := "fnWriteEscapedBackslashC", fn := fun _ => fun
  | [d1, d2, d3, d4, d5, d6, d7, d8, d9] => { results := [.lit (.bool true)], args := [d1, d2, d3, d4, d5, d6, d7, d8, d9] }
  | _ => none }
def fnWriteEscapedBackslashCRow : OpenClaim := { program := "qxb6601022a", sum := "2734d2463a1f0f4fc1e64d30689dba71be02d9679252963f1eb4924847c7962d", func := "example.com/gate3/gate3/zzlaws_shell_b1.FnWriteEscapedBackslashC", spec := "fnWriteEscapedBackslashC", inPlace := ["internal/abi.NoEscape"], apart := false }
def FnWriteEscapedBackslashCSaid : Prop := fnWriteEscapedBackslashCRow.holds Try.pinned (OpenSpec.ofChange fnWriteEscapedBackslashCSpec)

/-- ITS FALSE NEIGHBOUR: 'it returns false'. Refute it at one input. -/
def fnWriteEscapedBackslashCWrong : ChangeSpec := { name := "fnWriteEscapedBackslashC", fn := fun _ => fun
  | [d1, d2, d3, d4, d5, d6, d7, d8, d9] => { results := [.lit (.bool false)], args := [d1, d2, d3, d4, d5, d6, d7, d8, d9] }
  | _ => none }
def FnWriteEscapedBackslashCWrongFalsely : Prop := fnWriteEscapedBackslashCRow.holds Try.pinned (OpenSpec.ofChange fnWriteEscapedBackslashCWrong)

end Rows
end Go.Proofs.Qxb6601022a

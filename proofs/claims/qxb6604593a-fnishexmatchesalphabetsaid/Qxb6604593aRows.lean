/-
  No cell of these rows narrows 'for every input' (looked for: loops, veiled, ifaces, maps, wideKeys, modest, calm, conditions, laid).
  DERIVED. THE GIVEN ROWS OF THIS SEAT. 4 by the template 'for every input the law returns true; each argument reads behind the call as it read before'; 0 by the template 'total and deterministic' (their statements: Qxb6604593aTotals.lean).
  GIVEN WITH THE SEED: the statements are not yours to turn. If you find one false, say at which input.
  Laid BY PROGRAM, IN A SANDBOX (cutbox-rows.mjs): the forced cells as the released guide's own fill.sh prints them over the translation 519b5a9ee4bb1c2e… (all of the seat's roots in one cut). By AI agents, Wed Nov 11 2026. No macro, syntax, notation, axiom, sorry.
-/
import Derived.Test.Qxb6604593aChecked
import GoSem.Claim
import GoSem.ClaimJoined
import GoSem.ClaimMapViews
import Derived.JoinedTies
import Derived.KernelRfl
namespace Go.Proofs.Qxb6604593a
/- THE CELL 'sum', in the pinned program and in every row, IS THE sha256 OF THE DUMP (.gsa) THAT Qxb6604593aProg.lean LOADS. Nothing in Lean hashes anything: it is a label: what it is worth is what the hold of that sum in a sandbox is worth. -/
noncomputable def Try.pinned : Pinned := { name := "qxb6604593a", sum := "519b5a9ee4bb1c2e531a1db2811042c3812e89ecd0fc301e5fd3b3c453dd84ed", checked := Try.checked }
namespace Rows
def none {H : Type} : Left H := { results := [], args := [] }

/-- 'zzlaws_jsonline_b1.FnIsHexMatchesAlphabet': WHATEVER THE INPUT: true; the input reads as it did. -/
def fnIsHexMatchesAlphabetSpec : ChangeSpec := { name := "fnIsHexMatchesAlphabet", fn := fun _ => fun
  | [d] => { results := [.lit (.bool true)], args := [d] }
  | _ => none }
def fnIsHexMatchesAlphabetRow : OpenClaim := { program := "qxb6604593a", sum := "519b5a9ee4bb1c2e531a1db2811042c3812e89ecd0fc301e5fd3b3c453dd84ed", func := "example.com/keelmark/keelmark/zzlaws_jsonline_b1.FnIsHexMatchesAlphabet", spec := "fnIsHexMatchesAlphabet", apart := false }
def FnIsHexMatchesAlphabetSaid : Prop := fnIsHexMatchesAlphabetRow.holds Try.pinned (OpenSpec.ofChange fnIsHexMatchesAlphabetSpec)

/-- ITS FALSE NEIGHBOUR: 'it returns false'. Refute it at one input. -/
def fnIsHexMatchesAlphabetWrong : ChangeSpec := { name := "fnIsHexMatchesAlphabet", fn := fun _ => fun
  | [d] => { results := [.lit (.bool false)], args := [d] }
  | _ => none }
def FnIsHexMatchesAlphabetWrongFalsely : Prop := fnIsHexMatchesAlphabetRow.holds Try.pinned (OpenSpec.ofChange fnIsHexMatchesAlphabetWrong)

/-- 'zzlaws_jsonline_b1.FnIsHexCaseBlindAndCounted': WHATEVER THE INPUT: true; the input reads as it did. -/
def fnIsHexCaseBlindAndCountedSpec : ChangeSpec := { name := "fnIsHexCaseBlindAndCounted", fn := fun _ => fun
  | [d] => { results := [.lit (.bool true)], args := [d] }
  | _ => none }
def fnIsHexCaseBlindAndCountedRow : OpenClaim := { program := "qxb6604593a", sum := "519b5a9ee4bb1c2e531a1db2811042c3812e89ecd0fc301e5fd3b3c453dd84ed", func := "example.com/keelmark/keelmark/zzlaws_jsonline_b1.FnIsHexCaseBlindAndCounted", spec := "fnIsHexCaseBlindAndCounted", apart := false }
def FnIsHexCaseBlindAndCountedSaid : Prop := fnIsHexCaseBlindAndCountedRow.holds Try.pinned (OpenSpec.ofChange fnIsHexCaseBlindAndCountedSpec)

/-- ITS FALSE NEIGHBOUR: 'it returns false'. Refute it at one input. -/
def fnIsHexCaseBlindAndCountedWrong : ChangeSpec := { name := "fnIsHexCaseBlindAndCounted", fn := fun _ => fun
  | [d] => { results := [.lit (.bool false)], args := [d] }
  | _ => none }
def FnIsHexCaseBlindAndCountedWrongFalsely : Prop := fnIsHexCaseBlindAndCountedRow.holds Try.pinned (OpenSpec.ofChange fnIsHexCaseBlindAndCountedWrong)

/-- 'zzlaws_jsonline_b1.FnUnquoteMatchesSpecDecoder': WHATEVER THE INPUT: true; the input reads as it did. -/
def fnUnquoteMatchesSpecDecoderSpec : ChangeSpec := { name := "fnUnquoteMatchesSpecDecoder", fn := fun _ => fun
  | [d] => { results := [.lit (.bool true)], args := [d] }
  | _ => none }
def fnUnquoteMatchesSpecDecoderRow : OpenClaim := { program := "qxb6604593a", sum := "519b5a9ee4bb1c2e531a1db2811042c3812e89ecd0fc301e5fd3b3c453dd84ed", func := "example.com/keelmark/keelmark/zzlaws_jsonline_b1.FnUnquoteMatchesSpecDecoder", spec := "fnUnquoteMatchesSpecDecoder", inPlace := ["internal/bytealg.IndexByte", "internal/bytealg.IndexByteString"], apart := false }
def FnUnquoteMatchesSpecDecoderSaid : Prop := fnUnquoteMatchesSpecDecoderRow.holds Try.pinned (OpenSpec.ofChange fnUnquoteMatchesSpecDecoderSpec)

/-- ITS FALSE NEIGHBOUR: 'it returns false'. Refute it at one input. -/
def fnUnquoteMatchesSpecDecoderWrong : ChangeSpec := { name := "fnUnquoteMatchesSpecDecoder", fn := fun _ => fun
  | [d] => { results := [.lit (.bool false)], args := [d] }
  | _ => none }
def FnUnquoteMatchesSpecDecoderWrongFalsely : Prop := fnUnquoteMatchesSpecDecoderRow.holds Try.pinned (OpenSpec.ofChange fnUnquoteMatchesSpecDecoderWrong)

/-- 'zzlaws_jsonline_b1.FnUnquoteInvertsEscaping': WHATEVER THE INPUT: true; the input reads as it did. -/
def fnUnquoteInvertsEscapingSpec : ChangeSpec := { name := "fnUnquoteInvertsEscaping", fn := fun _ => fun
  | [d] => { results := [.lit (.bool true)], args := [d] }
  | _ => none }
def fnUnquoteInvertsEscapingRow : OpenClaim := { program := "qxb6604593a", sum := "519b5a9ee4bb1c2e531a1db2811042c3812e89ecd0fc301e5fd3b3c453dd84ed", func := "example.com/keelmark/keelmark/zzlaws_jsonline_b1.FnUnquoteInvertsEscaping", spec := "fnUnquoteInvertsEscaping", inPlace := ["internal/bytealg.IndexByte", "internal/bytealg.IndexByteString"], apart := false }
def FnUnquoteInvertsEscapingSaid : Prop := fnUnquoteInvertsEscapingRow.holds Try.pinned (OpenSpec.ofChange fnUnquoteInvertsEscapingSpec)

/-- ITS FALSE NEIGHBOUR: 'it returns false'. Refute it at one input. -/
def fnUnquoteInvertsEscapingWrong : ChangeSpec := { name := "fnUnquoteInvertsEscaping", fn := fun _ => fun
  | [d] => { results := [.lit (.bool false)], args := [d] }
  | _ => none }
def FnUnquoteInvertsEscapingWrongFalsely : Prop := fnUnquoteInvertsEscapingRow.holds Try.pinned (OpenSpec.ofChange fnUnquoteInvertsEscapingWrong)

end Rows
end Go.Proofs.Qxb6604593a

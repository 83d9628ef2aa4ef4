/-
  NARROWER THAN 'FOR EVERY INPUT', by the rows' own cells (each row's printed sentence says how): FnEncoderUintDecodesBackThroughDecoder: ifaces, laid · FnDecoderCountMatchesLengthPrefixModel: ifaces, laid · FnDecoderCountReadsEncodedLengthAndRefusesShort: ifaces, laid.
  DERIVED. THE GIVEN ROWS OF THIS SEAT. 3 by the template 'for every input the law returns true; each argument reads behind the call as it read before'; 0 by the template 'total and deterministic' (their statements: Qxb6603526aDoorTotals.lean).
  GIVEN WITH THE SEED: the statements are not yours to turn. If you find one false, say at which input.
  Laid BY PROGRAM, IN A SANDBOX (cutbox-rows.mjs): the forced cells as the released guide's own fill.sh prints them over the translation 4c4b3fda17461ce8… (all of the seat's roots in one cut). By AI agents, Wed Nov 11 2026. No macro, syntax, notation, axiom, sorry.
-/
import Derived.Test.Qxb6603526aDoorChecked
import GoSem.Claim
import GoSem.ClaimJoined
import GoSem.ClaimMapViews
import Derived.JoinedTies
import Derived.KernelRfl
namespace Go.Proofs.Qxb6603526aDoor
/- THE CELL 'sum', in the pinned program and in every row, IS THE sha256 OF THE DUMP (.gsa) THAT Qxb6603526aDoorProg.lean LOADS. Nothing in Lean hashes anything: it is a label: what it is worth is what the hold of that sum in a sandbox is worth. -/
noncomputable def Tryd.pinned : Pinned := { name := "qxb6603526adoor", sum := "4c4b3fda17461ce8a7e083b6b62114152a3bacc841cb517894270c31a2d386ae", checked := Tryd.checked }
namespace Rows
def none {H : Type} : Left H := { results := [], args := [] }

/- WHAT THE LISTED PACKAGE-LEVEL VARIABLES READ AS WHEN THE CALL BEGINS. Each datum BY PROGRAM (the guide's laid-datum.mjs) off the statement by which the dump's own 'gosem.cut.vars' lays the variable. In a bare row this is a premise. The card (Qxb6603526aDoorCards.lean) ties it to the program's text. -/
def laid_example_com_enrole_enrole_store_errShort {H : Type} : DataW H := .iface "*errors.errorString" (.ptr (.agg [.lit (.string [116, 104, 101, 32, 115, 116, 97, 116, 101, 32, 101, 110, 100, 115, 32, 98, 101, 102, 111, 114, 101, 32, 105, 116, 115, 32, 108, 97, 115, 116, 32, 118, 97, 108, 117, 101])]))

/-- 'zzlaws_store_b1.FnEncoderUintDecodesBackThroughDecoder': WHATEVER THE INPUT: true; the input reads as it did. -/
def fnEncoderUintDecodesBackThroughDecoderSpec : ChangeSpec := { name := "fnEncoderUintDecodesBackThroughDecoder", vars := ["example.com/enrole/enrole/store.errShort"], fn := fun _ => fun
  | [d1, d2, g1] => { results := [.lit (.bool true)], args := [d1, d2], vars := [g1] }
  | _ => none }
def fnEncoderUintDecodesBackThroughDecoderRow : OpenClaim := { program := "qxb6603526adoor", sum := "4c4b3fda17461ce8a7e083b6b62114152a3bacc841cb517894270c31a2d386ae", func := "example.com/enrole/enrole/zzlaws_store_b1.FnEncoderUintDecodesBackThroughDecoder", spec := "fnEncoderUintDecodesBackThroughDecoder", named := ["example.com/enrole/enrole/store.errShort"], ifaces := true, apart := false, laid := [("example.com/enrole/enrole/store.errShort", laid_example_com_enrole_enrole_store_errShort)] }
def FnEncoderUintDecodesBackThroughDecoderSaid : Prop := fnEncoderUintDecodesBackThroughDecoderRow.holds Tryd.pinned (OpenSpec.ofChange fnEncoderUintDecodesBackThroughDecoderSpec)

/-- ITS FALSE NEIGHBOUR: 'it returns false'. Refute it at one input. -/
def fnEncoderUintDecodesBackThroughDecoderWrong : ChangeSpec := { name := "fnEncoderUintDecodesBackThroughDecoder", vars := ["example.com/enrole/enrole/store.errShort"], fn := fun _ => fun
  | [d1, d2, g1] => { results := [.lit (.bool false)], args := [d1, d2], vars := [g1] }
  | _ => none }
def FnEncoderUintDecodesBackThroughDecoderWrongFalsely : Prop := fnEncoderUintDecodesBackThroughDecoderRow.holds Tryd.pinned (OpenSpec.ofChange fnEncoderUintDecodesBackThroughDecoderWrong)

/-- 'zzlaws_store_b1.FnDecoderCountMatchesLengthPrefixModel': WHATEVER THE INPUT: true; the input reads as it did. -/
def fnDecoderCountMatchesLengthPrefixModelSpec : ChangeSpec := { name := "fnDecoderCountMatchesLengthPrefixModel", vars := ["example.com/enrole/enrole/store.errShort"], fn := fun _ => fun
  | [d, g1] => { results := [.lit (.bool true)], args := [d], vars := [g1] }
  | _ => none }
def fnDecoderCountMatchesLengthPrefixModelRow : OpenClaim := { program := "qxb6603526adoor", sum := "4c4b3fda17461ce8a7e083b6b62114152a3bacc841cb517894270c31a2d386ae", func := "example.com/enrole/enrole/zzlaws_store_b1.FnDecoderCountMatchesLengthPrefixModel", spec := "fnDecoderCountMatchesLengthPrefixModel", named := ["example.com/enrole/enrole/store.errShort"], ifaces := true, apart := false, laid := [("example.com/enrole/enrole/store.errShort", laid_example_com_enrole_enrole_store_errShort)] }
def FnDecoderCountMatchesLengthPrefixModelSaid : Prop := fnDecoderCountMatchesLengthPrefixModelRow.holds Tryd.pinned (OpenSpec.ofChange fnDecoderCountMatchesLengthPrefixModelSpec)

/-- ITS FALSE NEIGHBOUR: 'it returns false'. Refute it at one input. -/
def fnDecoderCountMatchesLengthPrefixModelWrong : ChangeSpec := { name := "fnDecoderCountMatchesLengthPrefixModel", vars := ["example.com/enrole/enrole/store.errShort"], fn := fun _ => fun
  | [d, g1] => { results := [.lit (.bool false)], args := [d], vars := [g1] }
  | _ => none }
def FnDecoderCountMatchesLengthPrefixModelWrongFalsely : Prop := fnDecoderCountMatchesLengthPrefixModelRow.holds Tryd.pinned (OpenSpec.ofChange fnDecoderCountMatchesLengthPrefixModelWrong)

/-- 'zzlaws_store_b1.FnDecoderCountReadsEncodedLengthAndRefusesShort': WHATEVER THE INPUT: true; the input reads as it did. -/
def fnDecoderCountReadsEncodedLengthAndRefusesShortSpec : ChangeSpec := { name := "fnDecoderCountReadsEncodedLengthAndRefusesShort", vars := ["example.com/enrole/enrole/store.errShort"], fn := fun _ => fun
  | [d1, d2, g1] => { results := [.lit (.bool true)], args := [d1, d2], vars := [g1] }
  | _ => none }
def fnDecoderCountReadsEncodedLengthAndRefusesShortRow : OpenClaim := { program := "qxb6603526adoor", sum := "4c4b3fda17461ce8a7e083b6b62114152a3bacc841cb517894270c31a2d386ae", func := "example.com/enrole/enrole/zzlaws_store_b1.FnDecoderCountReadsEncodedLengthAndRefusesShort", spec := "fnDecoderCountReadsEncodedLengthAndRefusesShort", named := ["example.com/enrole/enrole/store.errShort"], ifaces := true, apart := false, laid := [("example.com/enrole/enrole/store.errShort", laid_example_com_enrole_enrole_store_errShort)] }
def FnDecoderCountReadsEncodedLengthAndRefusesShortSaid : Prop := fnDecoderCountReadsEncodedLengthAndRefusesShortRow.holds Tryd.pinned (OpenSpec.ofChange fnDecoderCountReadsEncodedLengthAndRefusesShortSpec)

/-- ITS FALSE NEIGHBOUR: 'it returns false'. Refute it at one input. -/
def fnDecoderCountReadsEncodedLengthAndRefusesShortWrong : ChangeSpec := { name := "fnDecoderCountReadsEncodedLengthAndRefusesShort", vars := ["example.com/enrole/enrole/store.errShort"], fn := fun _ => fun
  | [d1, d2, g1] => { results := [.lit (.bool false)], args := [d1, d2], vars := [g1] }
  | _ => none }
def FnDecoderCountReadsEncodedLengthAndRefusesShortWrongFalsely : Prop := fnDecoderCountReadsEncodedLengthAndRefusesShortRow.holds Tryd.pinned (OpenSpec.ofChange fnDecoderCountReadsEncodedLengthAndRefusesShortWrong)

end Rows
end Go.Proofs.Qxb6603526aDoor

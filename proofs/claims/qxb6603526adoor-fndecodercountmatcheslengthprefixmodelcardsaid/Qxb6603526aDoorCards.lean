/-
  DERIVED. GIVEN WITH THE SEED: THE CARDS: each row of Qxb6603526aDoorRows.lean that lists a variable, with what it lists TIED to the program's text (the seventh form; the later family's looks); each row that meets fmt, with fmt's text TOLD by the authors' own Lean function (tested against real Go, not proved from fmt's source: count such statements apart). THE CARD IS WHAT COUNTS. Prove the row's statement (the work); the ties are given (Qxb6603526aDoorTie.lean); close each card by the builder's one call (the guide's Derived/Test/ToyasCard.lean, 'card_holds'). Laid BY PROGRAM, IN A SANDBOX (cutbox-door.mjs). By AI agents, Wed Nov 11 2026. No macro, syntax, notation, axiom, sorry.
-/
import Derived.Test.Qxb6603526aDoorRows
import GoSem.ClaimSeven
namespace Go.Proofs.Qxb6603526aDoor
namespace Rows

/-- THE TIED CARD OF 'zzlaws_store_b1.FnEncoderUintDecodesBackThroughDecoder'. -/
def fnEncoderUintDecodesBackThroughDecoderCard : Claim7 := { stood := { row := fnEncoderUintDecodesBackThroughDecoderRow, standIns := [], harness := (true, "aeeee1ce20b110e003468088982fe91a76581f78a00dc9f797ed562e888fe706"), looks := false }, kinds := [], alts := [], laidByText := true, laidKinds := [.sentinel], laidTests := true, laidLooks := .later }
def FnEncoderUintDecodesBackThroughDecoderCardSaid : Prop := Claim7.holds Tryd.pinned (.plain (OpenSpec.ofChange fnEncoderUintDecodesBackThroughDecoderSpec)) fnEncoderUintDecodesBackThroughDecoderCard

/-- THE TIED CARD OF 'zzlaws_store_b1.FnDecoderCountMatchesLengthPrefixModel'. -/
def fnDecoderCountMatchesLengthPrefixModelCard : Claim7 := { stood := { row := fnDecoderCountMatchesLengthPrefixModelRow, standIns := [], harness := (true, "aeeee1ce20b110e003468088982fe91a76581f78a00dc9f797ed562e888fe706"), looks := false }, kinds := [], alts := [], laidByText := true, laidKinds := [.sentinel], laidTests := true, laidLooks := .later }
def FnDecoderCountMatchesLengthPrefixModelCardSaid : Prop := Claim7.holds Tryd.pinned (.plain (OpenSpec.ofChange fnDecoderCountMatchesLengthPrefixModelSpec)) fnDecoderCountMatchesLengthPrefixModelCard

/-- THE TIED CARD OF 'zzlaws_store_b1.FnDecoderCountReadsEncodedLengthAndRefusesShort'. -/
def fnDecoderCountReadsEncodedLengthAndRefusesShortCard : Claim7 := { stood := { row := fnDecoderCountReadsEncodedLengthAndRefusesShortRow, standIns := [], harness := (true, "aeeee1ce20b110e003468088982fe91a76581f78a00dc9f797ed562e888fe706"), looks := false }, kinds := [], alts := [], laidByText := true, laidKinds := [.sentinel], laidTests := true, laidLooks := .later }
def FnDecoderCountReadsEncodedLengthAndRefusesShortCardSaid : Prop := Claim7.holds Tryd.pinned (.plain (OpenSpec.ofChange fnDecoderCountReadsEncodedLengthAndRefusesShortSpec)) fnDecoderCountReadsEncodedLengthAndRefusesShortCard
end Rows
end Go.Proofs.Qxb6603526aDoor

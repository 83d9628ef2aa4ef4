/-
  DERIVED. GIVEN WITH THE SEED: THE CARDS: each row of Qxb6604495aDoorRows.lean that lists a variable, with what it lists TIED to the program's text (the seventh form; the later family's looks); each row that meets fmt, with fmt's text TOLD by the authors' own Lean function (tested against real Go, not proved from fmt's source: count such statements apart). THE CARD IS WHAT COUNTS. Prove the row's statement (the work); the ties are given (Qxb6604495aDoorTie.lean); close each card by the builder's one call (the guide's Derived/Test/ToyasCard.lean, 'card_holds'). Laid BY PROGRAM, IN A SANDBOX (cutbox-door.mjs). By AI agents, Wed Nov 11 2026. No macro, syntax, notation, axiom, sorry.
-/
import Derived.Test.Qxb6604495aDoorRows
import GoSem.ClaimSeven
namespace Go.Proofs.Qxb6604495aDoor
namespace Rows

/-- THE TIED CARD OF 'zzlaws_root_b1.FnActionStringDecodes'. -/
def fnActionStringDecodesCard : Claim7 := { stood := { row := fnActionStringDecodesRow, standIns := [], harness := (true, "695a32bf5cfa95e3c8068238cd2acb8a365f0812c13fc1bd19c18f05596d7c3f"), looks := false }, kinds := [], alts := [], laidByText := true, laidKinds := [.data, .data, .data], laidTests := true, laidLooks := .later }
def FnActionStringDecodesCardSaid : Prop := Claim7.holds Tryd.pinned (.plain (OpenSpec.ofChange fnActionStringDecodesSpec)) fnActionStringDecodesCard

/-- THE TIED CARD OF 'zzlaws_root_b1.FnActionStringInjective'. -/
def fnActionStringInjectiveCard : Claim7 := { stood := { row := fnActionStringInjectiveRow, standIns := [], harness := (true, "695a32bf5cfa95e3c8068238cd2acb8a365f0812c13fc1bd19c18f05596d7c3f"), looks := false }, kinds := [], alts := [], laidByText := true, laidKinds := [.data, .data, .data], laidTests := true, laidLooks := .later }
def FnActionStringInjectiveCardSaid : Prop := Claim7.holds Tryd.pinned (.plain (OpenSpec.ofChange fnActionStringInjectiveSpec)) fnActionStringInjectiveCard

/-- THE TIED CARD OF 'zzlaws_root_b1.FnModeStringDecodes'. -/
def fnModeStringDecodesCard : Claim7 := { stood := { row := fnModeStringDecodesRow, standIns := [], harness := (true, "695a32bf5cfa95e3c8068238cd2acb8a365f0812c13fc1bd19c18f05596d7c3f"), looks := false }, kinds := [], alts := [], laidByText := true, laidKinds := [.data, .data, .data], laidTests := true, laidLooks := .later }
def FnModeStringDecodesCardSaid : Prop := Claim7.holds Tryd.pinned (.plain (OpenSpec.ofChange fnModeStringDecodesSpec)) fnModeStringDecodesCard

/-- THE TIED CARD OF 'zzlaws_root_b1.FnModeStringInjective'. -/
def fnModeStringInjectiveCard : Claim7 := { stood := { row := fnModeStringInjectiveRow, standIns := [], harness := (true, "695a32bf5cfa95e3c8068238cd2acb8a365f0812c13fc1bd19c18f05596d7c3f"), looks := false }, kinds := [], alts := [], laidByText := true, laidKinds := [.data, .data, .data], laidTests := true, laidLooks := .later }
def FnModeStringInjectiveCardSaid : Prop := Claim7.holds Tryd.pinned (.plain (OpenSpec.ofChange fnModeStringInjectiveSpec)) fnModeStringInjectiveCard

/-- THE TIED CARD OF 'zzlaws_root_b1.FnUnknownActionAndModeShareNumbering'. -/
def fnUnknownActionAndModeShareNumberingCard : Claim7 := { stood := { row := fnUnknownActionAndModeShareNumberingRow, standIns := [], harness := (true, "695a32bf5cfa95e3c8068238cd2acb8a365f0812c13fc1bd19c18f05596d7c3f"), looks := false }, kinds := [], alts := [], laidByText := true, laidKinds := [.data, .data, .data], laidTests := true, laidLooks := .later }
def FnUnknownActionAndModeShareNumberingCardSaid : Prop := Claim7.holds Tryd.pinned (.plain (OpenSpec.ofChange fnUnknownActionAndModeShareNumberingSpec)) fnUnknownActionAndModeShareNumberingCard
end Rows
end Go.Proofs.Qxb6604495aDoor

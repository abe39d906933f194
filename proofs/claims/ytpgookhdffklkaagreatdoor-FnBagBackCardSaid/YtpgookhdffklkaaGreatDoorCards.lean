/-
  DERIVED. GIVEN WITH THE SEED: THE CARDS: each row of YtpgookhdffklkaaGreatDoorRows.lean that lists a variable, with what it lists TIED to the program's text (the seventh form; the later family's looks); each row that meets fmt, with fmt's text TOLD by the authors' own Lean function (tested against real Go, not proved from fmt's source: count such statements apart). THE CARD IS WHAT COUNTS. Prove the row's statement (the work); the ties are given (YtpgookhdffklkaaGreatDoorTie.lean); close each card by the builder's one call (the guide's Derived/Test/ToyasCard.lean, 'card_holds'). Laid BY PROGRAM, IN A SANDBOX (cutbox-door.mjs). By AI agents, Wed Nov 11 2026. No macro, syntax, notation, axiom, sorry.
-/
import Derived.Test.YtpgookhdffklkaaGreatDoorRows
import GoSem.ClaimSeven
namespace Go.Proofs.YtpgookhdffklkaaGreatDoor
namespace Rows

/-- THE TIED CARD OF 'laws.FnBagBack'. -/
def fnBagBackCard : Claim7 := { stood := { row := fnBagBackRow, standIns := [], harness := (true, "6f535d36ac71bcc24b55a63607efa7b699b547dfc5de0267b54bec3732bd1b39"), looks := true }, kinds := [], alts := [], laidByText := true, laidKinds := [.data, .listed, .data, .sentinel, .sentinel, .sentinel, .sentinel, .sentinel, .sentinel, .data, .data, .pinned], laidTests := true, laidLooks := .later }
def FnBagBackCardSaid : Prop := Claim7.holds Tryz.pinned (.plain (OpenSpec.ofChange fnBagBackSpec)) fnBagBackCard

/-- THE TIED CARD OF 'laws.FnBagMade'. -/
def fnBagMadeCard : Claim7 := { stood := { row := fnBagMadeRow, standIns := [], harness := (true, "6f535d36ac71bcc24b55a63607efa7b699b547dfc5de0267b54bec3732bd1b39"), looks := true }, kinds := [], alts := [], laidByText := true, laidKinds := [.data, .listed, .data, .sentinel, .sentinel, .sentinel, .sentinel, .sentinel, .sentinel, .data, .data, .pinned], laidTests := true, laidLooks := .later }
def FnBagMadeCardSaid : Prop := Claim7.holds Tryz.pinned (.plain (OpenSpec.ofChange fnBagMadeSpec)) fnBagMadeCard

/-- THE TIED CARD OF 'laws.FnExtractBaggage'. -/
def fnExtractBaggageCard : Claim7 := { stood := { row := fnExtractBaggageRow, standIns := [], harness := (true, "6f535d36ac71bcc24b55a63607efa7b699b547dfc5de0267b54bec3732bd1b39"), looks := true }, kinds := [], alts := [], laidByText := true, laidKinds := [.data, .listed, .data, .sentinel, .sentinel, .sentinel, .sentinel, .sentinel, .sentinel, .data, .data, .pinned], laidTests := true, laidLooks := .later }
def FnExtractBaggageCardSaid : Prop := Claim7.holds Tryz.pinned (.plain (OpenSpec.ofChange fnExtractBaggageSpec)) fnExtractBaggageCard

/-- THE TIED CARD OF 'laws.FnExtractNone'. -/
def fnExtractNoneCard : Claim7 := { stood := { row := fnExtractNoneRow, standIns := [], harness := (true, "6f535d36ac71bcc24b55a63607efa7b699b547dfc5de0267b54bec3732bd1b39"), looks := true }, kinds := [], alts := [], laidByText := true, laidKinds := [.data, .listed, .data, .sentinel, .sentinel, .sentinel, .sentinel, .sentinel, .sentinel, .data, .data, .pinned], laidTests := true, laidLooks := .later }
def FnExtractNoneCardSaid : Prop := Claim7.holds Tryz.pinned (.plain (OpenSpec.ofChange fnExtractNoneSpec)) fnExtractNoneCard

/-- THE TIED CARD OF 'laws.FnInjectBaggage'. -/
def fnInjectBaggageCard : Claim7 := { stood := { row := fnInjectBaggageRow, standIns := [], harness := (true, "6f535d36ac71bcc24b55a63607efa7b699b547dfc5de0267b54bec3732bd1b39"), looks := true }, kinds := [], alts := [], laidByText := true, laidKinds := [.data, .listed, .data, .sentinel, .sentinel, .sentinel, .sentinel, .sentinel, .sentinel, .data, .data, .pinned], laidTests := true, laidLooks := .later }
def FnInjectBaggageCardSaid : Prop := Claim7.holds Tryz.pinned (.plain (OpenSpec.ofChange fnInjectBaggageSpec)) fnInjectBaggageCard

/-- THE TIED CARD OF 'laws.FnExtractMany'. -/
def fnExtractManyCard : Claim7 := { stood := { row := fnExtractManyRow, standIns := [], harness := (true, "6f535d36ac71bcc24b55a63607efa7b699b547dfc5de0267b54bec3732bd1b39"), looks := true }, kinds := [], alts := [], laidByText := true, laidKinds := [.data, .listed, .data, .sentinel, .sentinel, .sentinel, .sentinel, .sentinel, .sentinel, .data, .data, .pinned], laidTests := true, laidLooks := .later }
def FnExtractManyCardSaid : Prop := Claim7.holds Tryz.pinned (.plain (OpenSpec.ofChange fnExtractManySpec)) fnExtractManyCard

/-- THE SECOND FORM's CARD OF 'laws.FnBagBack'. -/
def fnBagBackUptoCard : Claim7 := { stood := { row := fnBagBackUptoRow, standIns := [], harness := (true, "6f535d36ac71bcc24b55a63607efa7b699b547dfc5de0267b54bec3732bd1b39"), looks := true }, kinds := [], alts := [], laidByText := true, laidKinds := [.data, .listed, .data, .sentinel, .sentinel, .sentinel, .sentinel, .sentinel, .sentinel, .data, .data, .pinned], laidTests := true, laidLooks := .later }
def FnBagBackUptoCardSaid : Prop := Claim7.holds Tryz.pinned (.plain (OpenSpec.upto fnBagBackSpec)) fnBagBackUptoCard

/-- THE SECOND FORM's CARD OF 'laws.FnBagMade'. -/
def fnBagMadeUptoCard : Claim7 := { stood := { row := fnBagMadeUptoRow, standIns := [], harness := (true, "6f535d36ac71bcc24b55a63607efa7b699b547dfc5de0267b54bec3732bd1b39"), looks := true }, kinds := [], alts := [], laidByText := true, laidKinds := [.data, .listed, .data, .sentinel, .sentinel, .sentinel, .sentinel, .sentinel, .sentinel, .data, .data, .pinned], laidTests := true, laidLooks := .later }
def FnBagMadeUptoCardSaid : Prop := Claim7.holds Tryz.pinned (.plain (OpenSpec.upto fnBagMadeSpec)) fnBagMadeUptoCard

/-- THE SECOND FORM's CARD OF 'laws.FnExtractBaggage'. -/
def fnExtractBaggageUptoCard : Claim7 := { stood := { row := fnExtractBaggageUptoRow, standIns := [], harness := (true, "6f535d36ac71bcc24b55a63607efa7b699b547dfc5de0267b54bec3732bd1b39"), looks := true }, kinds := [], alts := [], laidByText := true, laidKinds := [.data, .listed, .data, .sentinel, .sentinel, .sentinel, .sentinel, .sentinel, .sentinel, .data, .data, .pinned], laidTests := true, laidLooks := .later }
def FnExtractBaggageUptoCardSaid : Prop := Claim7.holds Tryz.pinned (.plain (OpenSpec.upto fnExtractBaggageSpec)) fnExtractBaggageUptoCard

/-- THE SECOND FORM's CARD OF 'laws.FnExtractNone'. -/
def fnExtractNoneUptoCard : Claim7 := { stood := { row := fnExtractNoneUptoRow, standIns := [], harness := (true, "6f535d36ac71bcc24b55a63607efa7b699b547dfc5de0267b54bec3732bd1b39"), looks := true }, kinds := [], alts := [], laidByText := true, laidKinds := [.data, .listed, .data, .sentinel, .sentinel, .sentinel, .sentinel, .sentinel, .sentinel, .data, .data, .pinned], laidTests := true, laidLooks := .later }
def FnExtractNoneUptoCardSaid : Prop := Claim7.holds Tryz.pinned (.plain (OpenSpec.upto fnExtractNoneSpec)) fnExtractNoneUptoCard

/-- THE SECOND FORM's CARD OF 'laws.FnInjectBaggage'. -/
def fnInjectBaggageUptoCard : Claim7 := { stood := { row := fnInjectBaggageUptoRow, standIns := [], harness := (true, "6f535d36ac71bcc24b55a63607efa7b699b547dfc5de0267b54bec3732bd1b39"), looks := true }, kinds := [], alts := [], laidByText := true, laidKinds := [.data, .listed, .data, .sentinel, .sentinel, .sentinel, .sentinel, .sentinel, .sentinel, .data, .data, .pinned], laidTests := true, laidLooks := .later }
def FnInjectBaggageUptoCardSaid : Prop := Claim7.holds Tryz.pinned (.plain (OpenSpec.upto fnInjectBaggageSpec)) fnInjectBaggageUptoCard

/-- THE SECOND FORM's CARD OF 'laws.FnExtractMany'. -/
def fnExtractManyUptoCard : Claim7 := { stood := { row := fnExtractManyUptoRow, standIns := [], harness := (true, "6f535d36ac71bcc24b55a63607efa7b699b547dfc5de0267b54bec3732bd1b39"), looks := true }, kinds := [], alts := [], laidByText := true, laidKinds := [.data, .listed, .data, .sentinel, .sentinel, .sentinel, .sentinel, .sentinel, .sentinel, .data, .data, .pinned], laidTests := true, laidLooks := .later }
def FnExtractManyUptoCardSaid : Prop := Claim7.holds Tryz.pinned (.plain (OpenSpec.upto fnExtractManySpec)) fnExtractManyUptoCard
end Rows
end Go.Proofs.YtpgookhdffklkaaGreatDoor

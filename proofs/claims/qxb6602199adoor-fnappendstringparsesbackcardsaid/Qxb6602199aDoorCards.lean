/-
  DERIVED. GIVEN WITH THE SEED: THE CARDS: each row of Qxb6602199aDoorRows.lean that lists a variable, with what it lists TIED to the program's text (the seventh form; the later family's looks); each row that meets fmt, with fmt's text TOLD by the authors' own Lean function (tested against real Go, not proved from fmt's source: count such statements apart). THE CARD IS WHAT COUNTS. Prove the row's statement (the work); the ties are given (Qxb6602199aDoorTie.lean); close each card by the builder's one call (the guide's Derived/Test/ToyasCard.lean, 'card_holds'). Laid BY PROGRAM, IN A SANDBOX (cutbox-door.mjs). By AI agents, Wed Nov 11 2026. No macro, syntax, notation, axiom, sorry.
-/
import Derived.Test.Qxb6602199aDoorRows
import GoSem.ClaimSeven
namespace Go.Proofs.Qxb6602199aDoor
namespace Rows

/-- THE TIED CARD OF 'zzlaws_internal_bencode_b1.FnAppendStringParsesBack'. -/
def fnAppendStringParsesBackCard : Claim7 := { stood := { row := fnAppendStringParsesBackRow, standIns := [], harness := (true, "60442551619430e7db04f2c74a4ba640344f1d203c918a567cf683e2b98b290c"), looks := false }, kinds := [], alts := [], laidByText := true, laidKinds := [.data, .data, .data], laidTests := true, laidLooks := .later }
def FnAppendStringParsesBackCardSaid : Prop := Claim7.holds Tryd.pinned (.plain (OpenSpec.ofChange fnAppendStringParsesBackSpec)) fnAppendStringParsesBackCard

/-- THE TIED CARD OF 'zzlaws_internal_bencode_b1.FnAppendStringSelfDelimiting'. -/
def fnAppendStringSelfDelimitingCard : Claim7 := { stood := { row := fnAppendStringSelfDelimitingRow, standIns := [], harness := (true, "60442551619430e7db04f2c74a4ba640344f1d203c918a567cf683e2b98b290c"), looks := false }, kinds := [], alts := [], laidByText := true, laidKinds := [.data, .data, .data], laidTests := true, laidLooks := .later }
def FnAppendStringSelfDelimitingCardSaid : Prop := Claim7.holds Tryd.pinned (.plain (OpenSpec.ofChange fnAppendStringSelfDelimitingSpec)) fnAppendStringSelfDelimitingCard

/-- THE TIED CARD OF 'zzlaws_internal_bencode_b1.FnAppendIntParsesBack'. -/
def fnAppendIntParsesBackCard : Claim7 := { stood := { row := fnAppendIntParsesBackRow, standIns := [], harness := (true, "60442551619430e7db04f2c74a4ba640344f1d203c918a567cf683e2b98b290c"), looks := false }, kinds := [], alts := [], laidByText := true, laidKinds := [.data, .data, .data], laidTests := true, laidLooks := .later }
def FnAppendIntParsesBackCardSaid : Prop := Claim7.holds Tryd.pinned (.plain (OpenSpec.ofChange fnAppendIntParsesBackSpec)) fnAppendIntParsesBackCard

/-- THE TIED CARD OF 'zzlaws_internal_bencode_b1.FnAppendIntOrder'. -/
def fnAppendIntOrderCard : Claim7 := { stood := { row := fnAppendIntOrderRow, standIns := [], harness := (true, "60442551619430e7db04f2c74a4ba640344f1d203c918a567cf683e2b98b290c"), looks := false }, kinds := [], alts := [], laidByText := true, laidKinds := [.data, .data, .data], laidTests := true, laidLooks := .later }
def FnAppendIntOrderCardSaid : Prop := Claim7.holds Tryd.pinned (.plain (OpenSpec.ofChange fnAppendIntOrderSpec)) fnAppendIntOrderCard
end Rows
end Go.Proofs.Qxb6602199aDoor

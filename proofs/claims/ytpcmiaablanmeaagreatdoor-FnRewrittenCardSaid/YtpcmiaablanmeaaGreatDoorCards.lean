/-
  DERIVED. GIVEN WITH THE SEED: THE CARDS: each row of YtpcmiaablanmeaaGreatDoorRows.lean that lists a variable, with what it lists TIED to the program's text (the seventh form; the later family's looks); each row that meets fmt, with fmt's text TOLD by the authors' own Lean function (tested against real Go, not proved from fmt's source: count such statements apart). THE CARD IS WHAT COUNTS. Prove the row's statement (the work); the ties are given (YtpcmiaablanmeaaGreatDoorTie.lean); close each card by the builder's one call (the guide's Derived/Test/ToyasCard.lean, 'card_holds'). Laid BY PROGRAM, IN A SANDBOX (cutbox-door.mjs). By AI agents, Wed Nov 11 2026. No macro, syntax, notation, axiom, sorry.
-/
import Derived.Test.YtpcmiaablanmeaaGreatDoorRows
import GoSem.ClaimSeven
namespace Go.Proofs.YtpcmiaablanmeaaGreatDoor
namespace Rows

/-- THE TIED CARD OF 'laws.FnSetParse'. -/
def fnSetParseCard : Claim7 := { stood := { row := fnSetParseRow, standIns := [], harness := (true, "47f508fbb908b8a87b4d6c90822eb22c7bdca8c58c5a6b08a730226389544ecc"), looks := true }, kinds := [], alts := [], laidByText := true, laidKinds := [.sentinel], laidTests := true, laidLooks := .later }
def FnSetParseCardSaid : Prop := Claim7.holds Tryz.pinned (.plain (OpenSpec.ofChange fnSetParseSpec)) fnSetParseCard

/-- THE TIED CARD OF 'laws.FnExactSet'. -/
def fnExactSetCard : Claim7 := { stood := { row := fnExactSetRow, standIns := [], harness := (true, "47f508fbb908b8a87b4d6c90822eb22c7bdca8c58c5a6b08a730226389544ecc"), looks := true }, kinds := [], alts := [], laidByText := true, laidKinds := [.sentinel], laidTests := true, laidLooks := .later }
def FnExactSetCardSaid : Prop := Claim7.holds Tryz.pinned (.plain (OpenSpec.ofChange fnExactSetSpec)) fnExactSetCard

/-- THE TIED CARD OF 'laws.FnExactParse'. -/
def fnExactParseCard : Claim7 := { stood := { row := fnExactParseRow, standIns := [], harness := (true, "47f508fbb908b8a87b4d6c90822eb22c7bdca8c58c5a6b08a730226389544ecc"), looks := true }, kinds := [], alts := [], laidByText := true, laidKinds := [.sentinel], laidTests := true, laidLooks := .later }
def FnExactParseCardSaid : Prop := Claim7.holds Tryz.pinned (.plain (OpenSpec.ofChange fnExactParseSpec)) fnExactParseCard

/-- THE TIED CARD OF 'laws.FnRewritten'. -/
def fnRewrittenCard : Claim7 := { stood := { row := fnRewrittenRow, standIns := [], harness := (true, "47f508fbb908b8a87b4d6c90822eb22c7bdca8c58c5a6b08a730226389544ecc"), looks := true }, kinds := [], alts := [], laidByText := true, laidKinds := [.sentinel], laidTests := true, laidLooks := .later }
def FnRewrittenCardSaid : Prop := Claim7.holds Tryz.pinned (.plain (OpenSpec.ofChange fnRewrittenSpec)) fnRewrittenCard

/-- THE TIED CARD OF 'laws.FnStops'. -/
def fnStopsCard : Claim7 := { stood := { row := fnStopsRow, standIns := [], harness := (true, "47f508fbb908b8a87b4d6c90822eb22c7bdca8c58c5a6b08a730226389544ecc"), looks := true }, kinds := [], alts := [], laidByText := true, laidKinds := [.sentinel], laidTests := true, laidLooks := .later }
def FnStopsCardSaid : Prop := Claim7.holds Tryz.pinned (.plain (OpenSpec.ofChange fnStopsSpec)) fnStopsCard

/-- THE TIED CARD OF 'laws.FnTerminator'. -/
def fnTerminatorCard : Claim7 := { stood := { row := fnTerminatorRow, standIns := [], harness := (true, "47f508fbb908b8a87b4d6c90822eb22c7bdca8c58c5a6b08a730226389544ecc"), looks := true }, kinds := [], alts := [], laidByText := true, laidKinds := [.sentinel], laidTests := true, laidLooks := .later }
def FnTerminatorCardSaid : Prop := Claim7.holds Tryz.pinned (.plain (OpenSpec.ofChange fnTerminatorSpec)) fnTerminatorCard

/-- THE TIED CARD OF 'laws.FnTwoParts'. -/
def fnTwoPartsCard : Claim7 := { stood := { row := fnTwoPartsRow, standIns := [], harness := (true, "47f508fbb908b8a87b4d6c90822eb22c7bdca8c58c5a6b08a730226389544ecc"), looks := true }, kinds := [], alts := [], laidByText := true, laidKinds := [.sentinel], laidTests := true, laidLooks := .later }
def FnTwoPartsCardSaid : Prop := Claim7.holds Tryz.pinned (.plain (OpenSpec.ofChange fnTwoPartsSpec)) fnTwoPartsCard

/-- THE SECOND FORM's CARD OF 'laws.FnSetParse'. -/
def fnSetParseUptoCard : Claim7 := { stood := { row := fnSetParseUptoRow, standIns := [], harness := (true, "47f508fbb908b8a87b4d6c90822eb22c7bdca8c58c5a6b08a730226389544ecc"), looks := true }, kinds := [], alts := [], laidByText := true, laidKinds := [.sentinel], laidTests := true, laidLooks := .later }
def FnSetParseUptoCardSaid : Prop := Claim7.holds Tryz.pinned (.plain (OpenSpec.upto fnSetParseSpec)) fnSetParseUptoCard

/-- THE SECOND FORM's CARD OF 'laws.FnExactSet'. -/
def fnExactSetUptoCard : Claim7 := { stood := { row := fnExactSetUptoRow, standIns := [], harness := (true, "47f508fbb908b8a87b4d6c90822eb22c7bdca8c58c5a6b08a730226389544ecc"), looks := true }, kinds := [], alts := [], laidByText := true, laidKinds := [.sentinel], laidTests := true, laidLooks := .later }
def FnExactSetUptoCardSaid : Prop := Claim7.holds Tryz.pinned (.plain (OpenSpec.upto fnExactSetSpec)) fnExactSetUptoCard

/-- THE SECOND FORM's CARD OF 'laws.FnExactParse'. -/
def fnExactParseUptoCard : Claim7 := { stood := { row := fnExactParseUptoRow, standIns := [], harness := (true, "47f508fbb908b8a87b4d6c90822eb22c7bdca8c58c5a6b08a730226389544ecc"), looks := true }, kinds := [], alts := [], laidByText := true, laidKinds := [.sentinel], laidTests := true, laidLooks := .later }
def FnExactParseUptoCardSaid : Prop := Claim7.holds Tryz.pinned (.plain (OpenSpec.upto fnExactParseSpec)) fnExactParseUptoCard

/-- THE SECOND FORM's CARD OF 'laws.FnRewritten'. -/
def fnRewrittenUptoCard : Claim7 := { stood := { row := fnRewrittenUptoRow, standIns := [], harness := (true, "47f508fbb908b8a87b4d6c90822eb22c7bdca8c58c5a6b08a730226389544ecc"), looks := true }, kinds := [], alts := [], laidByText := true, laidKinds := [.sentinel], laidTests := true, laidLooks := .later }
def FnRewrittenUptoCardSaid : Prop := Claim7.holds Tryz.pinned (.plain (OpenSpec.upto fnRewrittenSpec)) fnRewrittenUptoCard

/-- THE SECOND FORM's CARD OF 'laws.FnStops'. -/
def fnStopsUptoCard : Claim7 := { stood := { row := fnStopsUptoRow, standIns := [], harness := (true, "47f508fbb908b8a87b4d6c90822eb22c7bdca8c58c5a6b08a730226389544ecc"), looks := true }, kinds := [], alts := [], laidByText := true, laidKinds := [.sentinel], laidTests := true, laidLooks := .later }
def FnStopsUptoCardSaid : Prop := Claim7.holds Tryz.pinned (.plain (OpenSpec.upto fnStopsSpec)) fnStopsUptoCard

/-- THE SECOND FORM's CARD OF 'laws.FnTerminator'. -/
def fnTerminatorUptoCard : Claim7 := { stood := { row := fnTerminatorUptoRow, standIns := [], harness := (true, "47f508fbb908b8a87b4d6c90822eb22c7bdca8c58c5a6b08a730226389544ecc"), looks := true }, kinds := [], alts := [], laidByText := true, laidKinds := [.sentinel], laidTests := true, laidLooks := .later }
def FnTerminatorUptoCardSaid : Prop := Claim7.holds Tryz.pinned (.plain (OpenSpec.upto fnTerminatorSpec)) fnTerminatorUptoCard

/-- THE SECOND FORM's CARD OF 'laws.FnTwoParts'. -/
def fnTwoPartsUptoCard : Claim7 := { stood := { row := fnTwoPartsUptoRow, standIns := [], harness := (true, "47f508fbb908b8a87b4d6c90822eb22c7bdca8c58c5a6b08a730226389544ecc"), looks := true }, kinds := [], alts := [], laidByText := true, laidKinds := [.sentinel], laidTests := true, laidLooks := .later }
def FnTwoPartsUptoCardSaid : Prop := Claim7.holds Tryz.pinned (.plain (OpenSpec.upto fnTwoPartsSpec)) fnTwoPartsUptoCard
end Rows
end Go.Proofs.YtpcmiaablanmeaaGreatDoor

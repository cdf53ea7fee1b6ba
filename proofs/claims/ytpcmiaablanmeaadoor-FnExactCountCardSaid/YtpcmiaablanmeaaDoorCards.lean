/-
  DERIVED. GIVEN WITH THE SEED: THE CARDS: each row of YtpcmiaablanmeaaDoorRows.lean that lists a variable, with what it lists TIED to the program's text (the seventh form; the later family's looks); each row that meets fmt, with fmt's text TOLD by the authors' own Lean function (tested against real Go, not proved from fmt's source: count such statements apart). THE CARD IS WHAT COUNTS. Prove the row's statement (the work); the ties are given (YtpcmiaablanmeaaDoorTie.lean); close each card by the builder's one call (the guide's Derived/Test/ToyasCard.lean, 'card_holds'). Laid BY PROGRAM, IN A SANDBOX (cutbox-door.mjs). By AI agents, Wed Nov 11 2026. No macro, syntax, notation, axiom, sorry.
-/
import Derived.Test.YtpcmiaablanmeaaDoorRows
import GoSem.ClaimSeven
namespace Go.Proofs.YtpcmiaablanmeaaDoor
namespace Rows

/-- THE TIED CARD OF 'laws.FnExactCount'. -/
def fnExactCountCard : Claim7 := { stood := { row := fnExactCountRow, standIns := [], harness := (true, "852e050277ce1dda721121a9fbe3229474563b13bf3c8f208592e8a51cd66c98"), looks := true }, kinds := [], alts := [], laidByText := true, laidKinds := [.sentinel], laidTests := true, laidLooks := .later }
def FnExactCountCardSaid : Prop := Claim7.holds Tryd.pinned (.plain (OpenSpec.ofChange fnExactCountSpec)) fnExactCountCard

/-- THE SECOND FORM's CARD OF 'laws.FnExactCount'. -/
def fnExactCountUptoCard : Claim7 := { stood := { row := fnExactCountUptoRow, standIns := [], harness := (true, "852e050277ce1dda721121a9fbe3229474563b13bf3c8f208592e8a51cd66c98"), looks := true }, kinds := [], alts := [], laidByText := true, laidKinds := [.sentinel], laidTests := true, laidLooks := .later }
def FnExactCountUptoCardSaid : Prop := Claim7.holds Tryd.pinned (.plain (OpenSpec.upto fnExactCountSpec)) fnExactCountUptoCard
end Rows
end Go.Proofs.YtpcmiaablanmeaaDoor

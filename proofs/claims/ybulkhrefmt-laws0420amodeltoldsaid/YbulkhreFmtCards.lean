/-
  DERIVED. GIVEN WITH THE SEED: THE CARDS: each row of YbulkhreFmtRows.lean that lists a variable, with what it lists TIED to the program's text (the seventh form; the later family's looks); each row that meets fmt, with fmt's text TOLD by the authors' own Lean function (tested against real Go, not proved from fmt's source: count such statements apart). THE CARD IS WHAT COUNTS. Prove the row's statement (the work); the ties are given (YbulkhreFmtTie.lean); close each card by the builder's one call (the guide's Derived/Test/ToyasCard.lean, 'card_holds'). Laid BY PROGRAM, IN A SANDBOX (cutbox-door.mjs). By AI agents, Wed Nov 11 2026. No macro, syntax, notation, axiom, sorry.
-/
import Derived.Test.YbulkhreFmtRows
import GoSem.ClaimSeven
namespace Go.Proofs.YbulkhreFmt
namespace Rows

/-- THE TOLD CARD OF 'codec.LawS0420ARoundTrip'. -/
def lawS0420ARoundTripCard : Claim7 := { stood := { row := lawS0420ARoundTripRow, standIns := [], harness := (true, "ce0b6b14739d1a618568ca6a49eb18d999286ad35c5b9936e89313136b9771ca"), looks := false }, told := true, goes := false }
def LawS0420ARoundTripToldSaid : Prop := Claim7.holds Ybaf.pinned (.plain (OpenSpec.ofChange lawS0420ARoundTripSpec)) lawS0420ARoundTripCard
/-- ITS FALSE NEIGHBOUR. Refute it at one input. -/
def LawS0420ARoundTripToldWrongFalsely : Prop := Claim7.holds Ybaf.pinned (.plain (OpenSpec.ofChange lawS0420ARoundTripWrong)) lawS0420ARoundTripCard

/-- THE TOLD CARD OF 'codec.LawS0420AModel'. -/
def lawS0420AModelCard : Claim7 := { stood := { row := lawS0420AModelRow, standIns := [], harness := (true, "ce0b6b14739d1a618568ca6a49eb18d999286ad35c5b9936e89313136b9771ca"), looks := false }, told := true, goes := false }
def LawS0420AModelToldSaid : Prop := Claim7.holds Ybaf.pinned (.plain (OpenSpec.ofChange lawS0420AModelSpec)) lawS0420AModelCard
/-- ITS FALSE NEIGHBOUR. Refute it at one input. -/
def LawS0420AModelToldWrongFalsely : Prop := Claim7.holds Ybaf.pinned (.plain (OpenSpec.ofChange lawS0420AModelWrong)) lawS0420AModelCard
end Rows
end Go.Proofs.YbulkhreFmt

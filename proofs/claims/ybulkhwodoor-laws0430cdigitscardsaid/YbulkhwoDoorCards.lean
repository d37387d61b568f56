/-
  DERIVED. GIVEN WITH THE SEED: THE CARDS: each row of YbulkhwoDoorRows.lean that lists a variable, with what it lists TIED to the program's text (the seventh form; the later family's looks); each row that meets fmt, with fmt's text TOLD by the authors' own Lean function (tested against real Go, not proved from fmt's source: count such statements apart). THE CARD IS WHAT COUNTS. Prove the row's statement (the work); the ties are given (YbulkhwoDoorTie.lean); close each card by the builder's one call (the guide's Derived/Test/ToyasCard.lean, 'card_holds'). Laid BY PROGRAM, IN A SANDBOX (cutbox-door.mjs). By AI agents, Wed Nov 11 2026. No macro, syntax, notation, axiom, sorry.
-/
import Derived.Test.YbulkhwoDoorRows
import GoSem.ClaimSeven
namespace Go.Proofs.YbulkhwoDoor
namespace Rows

/-- THE TIED CARD OF 'floatscope.LawS0430CDigits'. -/
def lawS0430CDigitsCard : Claim7 := { stood := { row := lawS0430CDigitsRow, standIns := [], harness := (true, "d3dc760715e872ef0b530b52f8ac931654cef403031ca33e628aa93e149ad237"), looks := false }, kinds := [], alts := [], laidByText := true, laidKinds := [.called], laidTests := true, laidLooks := .later }
def LawS0430CDigitsCardSaid : Prop := Claim7.holds Ybad.pinned (.plain (OpenSpec.ofChange lawS0430CDigitsSpec)) lawS0430CDigitsCard

/-- THE TIED CARD OF 'floatscope.LawS0430COrder'. -/
def lawS0430COrderCard : Claim7 := { stood := { row := lawS0430COrderRow, standIns := [], harness := (true, "d3dc760715e872ef0b530b52f8ac931654cef403031ca33e628aa93e149ad237"), looks := false }, kinds := [], alts := [], laidByText := true, laidKinds := [.called], laidTests := true, laidLooks := .later }
def LawS0430COrderCardSaid : Prop := Claim7.holds Ybad.pinned (.plain (OpenSpec.ofChange lawS0430COrderSpec)) lawS0430COrderCard
end Rows
end Go.Proofs.YbulkhwoDoor

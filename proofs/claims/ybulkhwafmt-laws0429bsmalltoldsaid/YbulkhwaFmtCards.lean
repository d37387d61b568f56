/-
  DERIVED. GIVEN WITH THE SEED: THE CARDS: each row of YbulkhwaFmtRows.lean that lists a variable, with what it lists TIED to the program's text (the seventh form; the later family's looks); each row that meets fmt, with fmt's text TOLD by the authors' own Lean function (tested against real Go, not proved from fmt's source: count such statements apart). THE CARD IS WHAT COUNTS. Prove the row's statement (the work); the ties are given (YbulkhwaFmtTie.lean); close each card by the builder's one call (the guide's Derived/Test/ToyasCard.lean, 'card_holds'). Laid BY PROGRAM, IN A SANDBOX (cutbox-door.mjs). By AI agents, Wed Nov 11 2026. No macro, syntax, notation, axiom, sorry.
-/
import Derived.Test.YbulkhwaFmtRows
import GoSem.ClaimSeven
namespace Go.Proofs.YbulkhwaFmt
namespace Rows

/-- THE TOLD CARD OF 'recovery.LawS0429BSmall'. -/
def lawS0429BSmallCard : Claim7 := { stood := { row := lawS0429BSmallRow, standIns := [], harness := (true, "bbcbb1e7f5bfb12907ec0fdff35af5d206c1b89a655d0f6f9502afbe838dce95"), looks := false }, told := true, goes := false }
def LawS0429BSmallToldSaid : Prop := Claim7.holds Ybaf.pinned (.plain (OpenSpec.ofChange lawS0429BSmallSpec)) lawS0429BSmallCard
/-- ITS FALSE NEIGHBOUR. Refute it at one input. -/
def LawS0429BSmallToldWrongFalsely : Prop := Claim7.holds Ybaf.pinned (.plain (OpenSpec.ofChange lawS0429BSmallWrong)) lawS0429BSmallCard

/-- THE TOLD CARD OF 'recovery.LawS0429BPick'. -/
def lawS0429BPickCard : Claim7 := { stood := { row := lawS0429BPickRow, standIns := [], harness := (true, "bbcbb1e7f5bfb12907ec0fdff35af5d206c1b89a655d0f6f9502afbe838dce95"), looks := false }, told := true, goes := false }
def LawS0429BPickToldSaid : Prop := Claim7.holds Ybaf.pinned (.plain (OpenSpec.ofChange lawS0429BPickSpec)) lawS0429BPickCard
/-- ITS FALSE NEIGHBOUR. Refute it at one input. -/
def LawS0429BPickToldWrongFalsely : Prop := Claim7.holds Ybaf.pinned (.plain (OpenSpec.ofChange lawS0429BPickWrong)) lawS0429BPickCard
end Rows
end Go.Proofs.YbulkhwaFmt

/-
  NARROWER THAN 'FOR EVERY INPUT', by the rows' own cells (each row's printed sentence says how): LawS0430CDigits: laid · LawS0430COrder: laid.
  DERIVED. THE GIVEN ROWS OF THIS SEAT. 2 by the template 'for every input the law returns true; each argument reads behind the call as it read before'; 0 by the template 'total and deterministic' (their statements: YbulkhwoDoorTotals.lean).
  GIVEN WITH THE SEED: the statements are not yours to turn. If you find one false, say at which input.
  Laid BY PROGRAM, IN A SANDBOX (cutbox-rows.mjs): the forced cells as the released guide's own fill.sh prints them over the translation 8859c4e3ad73c189… (all of the seat's roots in one cut). By AI agents, Wed Nov 11 2026. No macro, syntax, notation, axiom, sorry.
-/
import Derived.Test.YbulkhwoDoorChecked
import GoSem.Claim
import GoSem.ClaimJoined
import GoSem.ClaimMapViews
import Derived.JoinedTies
import Derived.KernelRfl
namespace Go.Proofs.YbulkhwoDoor
/- THE CELL 'sum', in the pinned program and in every row, IS THE sha256 OF THE DUMP (.gsa) THAT YbulkhwoDoorProg.lean LOADS. Nothing in Lean hashes anything: it is a label: what it is worth is what the hold of that sum in a sandbox is worth. -/
noncomputable def Ybad.pinned : Pinned := { name := "ybulkhwodoor", sum := "8859c4e3ad73c189908cc2001f54d605ba4375b49e041d3b243464d3a01893db", checked := Ybad.checked }
namespace Rows
def none {H : Type} : Left H := { results := [], args := [] }

/- WHAT THE LISTED PACKAGE-LEVEL VARIABLES READ AS WHEN THE CALL BEGINS. Each datum BY PROGRAM (the guide's laid-datum.mjs) off the statement by which the dump's own 'gosem.cut.vars' lays the variable. In a bare row this is a premise. The card (YbulkhwoDoorCards.lean) ties it to the program's text. -/
def laid_example_com_floatscope_floatscope_digitPairs {H : Type} : DataW H := .agg [.lit (.int .u8 48), .lit (.int .u8 48), .lit (.int .u8 48), .lit (.int .u8 49), .lit (.int .u8 48), .lit (.int .u8 50), .lit (.int .u8 48), .lit (.int .u8 51), .lit (.int .u8 48), .lit (.int .u8 52), .lit (.int .u8 48), .lit (.int .u8 53), .lit (.int .u8 48), .lit (.int .u8 54), .lit (.int .u8 48), .lit (.int .u8 55), .lit (.int .u8 48), .lit (.int .u8 56), .lit (.int .u8 48), .lit (.int .u8 57), .lit (.int .u8 49), .lit (.int .u8 48), .lit (.int .u8 49), .lit (.int .u8 49), .lit (.int .u8 49), .lit (.int .u8 50), .lit (.int .u8 49), .lit (.int .u8 51), .lit (.int .u8 49), .lit (.int .u8 52), .lit (.int .u8 49), .lit (.int .u8 53), .lit (.int .u8 49), .lit (.int .u8 54), .lit (.int .u8 49), .lit (.int .u8 55), .lit (.int .u8 49), .lit (.int .u8 56), .lit (.int .u8 49), .lit (.int .u8 57), .lit (.int .u8 50), .lit (.int .u8 48), .lit (.int .u8 50), .lit (.int .u8 49), .lit (.int .u8 50), .lit (.int .u8 50), .lit (.int .u8 50), .lit (.int .u8 51), .lit (.int .u8 50), .lit (.int .u8 52), .lit (.int .u8 50), .lit (.int .u8 53), .lit (.int .u8 50), .lit (.int .u8 54), .lit (.int .u8 50), .lit (.int .u8 55), .lit (.int .u8 50), .lit (.int .u8 56), .lit (.int .u8 50), .lit (.int .u8 57), .lit (.int .u8 51), .lit (.int .u8 48), .lit (.int .u8 51), .lit (.int .u8 49), .lit (.int .u8 51), .lit (.int .u8 50), .lit (.int .u8 51), .lit (.int .u8 51), .lit (.int .u8 51), .lit (.int .u8 52), .lit (.int .u8 51), .lit (.int .u8 53), .lit (.int .u8 51), .lit (.int .u8 54), .lit (.int .u8 51), .lit (.int .u8 55), .lit (.int .u8 51), .lit (.int .u8 56), .lit (.int .u8 51), .lit (.int .u8 57), .lit (.int .u8 52), .lit (.int .u8 48), .lit (.int .u8 52), .lit (.int .u8 49), .lit (.int .u8 52), .lit (.int .u8 50), .lit (.int .u8 52), .lit (.int .u8 51), .lit (.int .u8 52), .lit (.int .u8 52), .lit (.int .u8 52), .lit (.int .u8 53), .lit (.int .u8 52), .lit (.int .u8 54), .lit (.int .u8 52), .lit (.int .u8 55), .lit (.int .u8 52), .lit (.int .u8 56), .lit (.int .u8 52), .lit (.int .u8 57), .lit (.int .u8 53), .lit (.int .u8 48), .lit (.int .u8 53), .lit (.int .u8 49), .lit (.int .u8 53), .lit (.int .u8 50), .lit (.int .u8 53), .lit (.int .u8 51), .lit (.int .u8 53), .lit (.int .u8 52), .lit (.int .u8 53), .lit (.int .u8 53), .lit (.int .u8 53), .lit (.int .u8 54), .lit (.int .u8 53), .lit (.int .u8 55), .lit (.int .u8 53), .lit (.int .u8 56), .lit (.int .u8 53), .lit (.int .u8 57), .lit (.int .u8 54), .lit (.int .u8 48), .lit (.int .u8 54), .lit (.int .u8 49), .lit (.int .u8 54), .lit (.int .u8 50), .lit (.int .u8 54), .lit (.int .u8 51), .lit (.int .u8 54), .lit (.int .u8 52), .lit (.int .u8 54), .lit (.int .u8 53), .lit (.int .u8 54), .lit (.int .u8 54), .lit (.int .u8 54), .lit (.int .u8 55), .lit (.int .u8 54), .lit (.int .u8 56), .lit (.int .u8 54), .lit (.int .u8 57), .lit (.int .u8 55), .lit (.int .u8 48), .lit (.int .u8 55), .lit (.int .u8 49), .lit (.int .u8 55), .lit (.int .u8 50), .lit (.int .u8 55), .lit (.int .u8 51), .lit (.int .u8 55), .lit (.int .u8 52), .lit (.int .u8 55), .lit (.int .u8 53), .lit (.int .u8 55), .lit (.int .u8 54), .lit (.int .u8 55), .lit (.int .u8 55), .lit (.int .u8 55), .lit (.int .u8 56), .lit (.int .u8 55), .lit (.int .u8 57), .lit (.int .u8 56), .lit (.int .u8 48), .lit (.int .u8 56), .lit (.int .u8 49), .lit (.int .u8 56), .lit (.int .u8 50), .lit (.int .u8 56), .lit (.int .u8 51), .lit (.int .u8 56), .lit (.int .u8 52), .lit (.int .u8 56), .lit (.int .u8 53), .lit (.int .u8 56), .lit (.int .u8 54), .lit (.int .u8 56), .lit (.int .u8 55), .lit (.int .u8 56), .lit (.int .u8 56), .lit (.int .u8 56), .lit (.int .u8 57), .lit (.int .u8 57), .lit (.int .u8 48), .lit (.int .u8 57), .lit (.int .u8 49), .lit (.int .u8 57), .lit (.int .u8 50), .lit (.int .u8 57), .lit (.int .u8 51), .lit (.int .u8 57), .lit (.int .u8 52), .lit (.int .u8 57), .lit (.int .u8 53), .lit (.int .u8 57), .lit (.int .u8 54), .lit (.int .u8 57), .lit (.int .u8 55), .lit (.int .u8 57), .lit (.int .u8 56), .lit (.int .u8 57), .lit (.int .u8 57)]

/-- 'floatscope.LawS0430CDigits': WHATEVER THE INPUT: true; the input reads as it did. -/
def lawS0430CDigitsSpec : ChangeSpec := { name := "lawS0430CDigits", vars := ["example.com/floatscope/floatscope.digitPairs"], fn := fun _ => fun
  | [d1, d2, g1] => { results := [.lit (.bool true)], args := [d1, d2], vars := [g1] }
  | _ => none }
def lawS0430CDigitsRow : OpenClaim := { program := "ybulkhwodoor", sum := "8859c4e3ad73c189908cc2001f54d605ba4375b49e041d3b243464d3a01893db", func := "example.com/floatscope/floatscope.LawS0430CDigits", spec := "lawS0430CDigits", named := ["example.com/floatscope/floatscope.digitPairs"], apart := false, laid := [("example.com/floatscope/floatscope.digitPairs", laid_example_com_floatscope_floatscope_digitPairs)] }
def LawS0430CDigitsSaid : Prop := lawS0430CDigitsRow.holds Ybad.pinned (OpenSpec.ofChange lawS0430CDigitsSpec)

/-- ITS FALSE NEIGHBOUR: 'it returns false'. Refute it at one input. -/
def lawS0430CDigitsWrong : ChangeSpec := { name := "lawS0430CDigits", vars := ["example.com/floatscope/floatscope.digitPairs"], fn := fun _ => fun
  | [d1, d2, g1] => { results := [.lit (.bool false)], args := [d1, d2], vars := [g1] }
  | _ => none }
def LawS0430CDigitsWrongFalsely : Prop := lawS0430CDigitsRow.holds Ybad.pinned (OpenSpec.ofChange lawS0430CDigitsWrong)

/-- 'floatscope.LawS0430COrder': WHATEVER THE INPUT: true; the input reads as it did. -/
def lawS0430COrderSpec : ChangeSpec := { name := "lawS0430COrder", vars := ["example.com/floatscope/floatscope.digitPairs"], fn := fun _ => fun
  | [d1, d2, g1] => { results := [.lit (.bool true)], args := [d1, d2], vars := [g1] }
  | _ => none }
def lawS0430COrderRow : OpenClaim := { program := "ybulkhwodoor", sum := "8859c4e3ad73c189908cc2001f54d605ba4375b49e041d3b243464d3a01893db", func := "example.com/floatscope/floatscope.LawS0430COrder", spec := "lawS0430COrder", named := ["example.com/floatscope/floatscope.digitPairs"], apart := false, laid := [("example.com/floatscope/floatscope.digitPairs", laid_example_com_floatscope_floatscope_digitPairs)] }
def LawS0430COrderSaid : Prop := lawS0430COrderRow.holds Ybad.pinned (OpenSpec.ofChange lawS0430COrderSpec)

/-- ITS FALSE NEIGHBOUR: 'it returns false'. Refute it at one input. -/
def lawS0430COrderWrong : ChangeSpec := { name := "lawS0430COrder", vars := ["example.com/floatscope/floatscope.digitPairs"], fn := fun _ => fun
  | [d1, d2, g1] => { results := [.lit (.bool false)], args := [d1, d2], vars := [g1] }
  | _ => none }
def LawS0430COrderWrongFalsely : Prop := lawS0430COrderRow.holds Ybad.pinned (OpenSpec.ofChange lawS0430COrderWrong)

end Rows
end Go.Proofs.YbulkhwoDoor

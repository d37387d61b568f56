/-
  No cell of these rows narrows 'for every input' (looked for: loops, veiled, ifaces, maps, wideKeys, modest, calm, conditions, laid).
  DERIVED. THE GIVEN ROWS OF THIS SEAT. 2 by the template 'for every input the law returns true; each argument reads behind the call as it read before'; 0 by the template 'total and deterministic' (their statements: YbulkhwoTotals.lean).
  GIVEN WITH THE SEED: the statements are not yours to turn. If you find one false, say at which input.
  Laid BY PROGRAM, IN A SANDBOX (cutbox-rows.mjs): the forced cells as the released guide's own fill.sh prints them over the translation 0a9c80d2b0a24966… (all of the seat's roots in one cut). By AI agents, Wed Nov 11 2026. No macro, syntax, notation, axiom, sorry.
-/
import Derived.Test.YbulkhwoChecked
import GoSem.Claim
import GoSem.ClaimJoined
import GoSem.ClaimMapViews
import Derived.JoinedTies
import Derived.KernelRfl
namespace Go.Proofs.Ybulkhwo
/- THE CELL 'sum', in the pinned program and in every row, IS THE sha256 OF THE DUMP (.gsa) THAT YbulkhwoProg.lean LOADS. Nothing in Lean hashes anything: it is a label: what it is worth is what the hold of that sum in a sandbox is worth. -/
noncomputable def Yba.pinned : Pinned := { name := "ybulkhwo", sum := "0a9c80d2b0a24966392072d07887af373de4d2adadefcc8a59c984b6b2c9dad9", checked := Yba.checked }
namespace Rows
def none {H : Type} : Left H := { results := [], args := [] }

/-- 'floatscope.LawS0430ASplit': WHATEVER THE INPUT: true; the input reads as it did. -/
def lawS0430ASplitSpec : ChangeSpec := { name := "lawS0430ASplit", fn := fun _ => fun
  | [d1, d2, d3] => { results := [.lit (.bool true)], args := [d1, d2, d3] }
  | _ => none }
def lawS0430ASplitRow : OpenClaim := { program := "ybulkhwo", sum := "0a9c80d2b0a24966392072d07887af373de4d2adadefcc8a59c984b6b2c9dad9", func := "example.com/floatscope/floatscope.LawS0430ASplit", spec := "lawS0430ASplit", apart := false }
def LawS0430ASplitSaid : Prop := lawS0430ASplitRow.holds Yba.pinned (OpenSpec.ofChange lawS0430ASplitSpec)

/-- ITS FALSE NEIGHBOUR: 'it returns false'. Refute it at one input. -/
def lawS0430ASplitWrong : ChangeSpec := { name := "lawS0430ASplit", fn := fun _ => fun
  | [d1, d2, d3] => { results := [.lit (.bool false)], args := [d1, d2, d3] }
  | _ => none }
def LawS0430ASplitWrongFalsely : Prop := lawS0430ASplitRow.holds Yba.pinned (OpenSpec.ofChange lawS0430ASplitWrong)

/-- 'floatscope.LawS0430BLowBits': WHATEVER THE INPUT: true; the input reads as it did. -/
def lawS0430BLowBitsSpec : ChangeSpec := { name := "lawS0430BLowBits", fn := fun _ => fun
  | [d1, d2] => { results := [.lit (.bool true)], args := [d1, d2] }
  | _ => none }
def lawS0430BLowBitsRow : OpenClaim := { program := "ybulkhwo", sum := "0a9c80d2b0a24966392072d07887af373de4d2adadefcc8a59c984b6b2c9dad9", func := "example.com/floatscope/floatscope.LawS0430BLowBits", spec := "lawS0430BLowBits", apart := false }
def LawS0430BLowBitsSaid : Prop := lawS0430BLowBitsRow.holds Yba.pinned (OpenSpec.ofChange lawS0430BLowBitsSpec)

/-- ITS FALSE NEIGHBOUR: 'it returns false'. Refute it at one input. -/
def lawS0430BLowBitsWrong : ChangeSpec := { name := "lawS0430BLowBits", fn := fun _ => fun
  | [d1, d2] => { results := [.lit (.bool false)], args := [d1, d2] }
  | _ => none }
def LawS0430BLowBitsWrongFalsely : Prop := lawS0430BLowBitsRow.holds Yba.pinned (OpenSpec.ofChange lawS0430BLowBitsWrong)

end Rows
end Go.Proofs.Ybulkhwo

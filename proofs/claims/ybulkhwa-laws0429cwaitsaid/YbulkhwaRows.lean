/-
  No cell of these rows narrows 'for every input' (looked for: loops, veiled, ifaces, maps, wideKeys, modest, calm, conditions, laid).
  DERIVED. THE GIVEN ROWS OF THIS SEAT. 2 by the template 'for every input the law returns true; each argument reads behind the call as it read before'; 0 by the template 'total and deterministic' (their statements: YbulkhwaTotals.lean).
  GIVEN WITH THE SEED: the statements are not yours to turn. If you find one false, say at which input.
  Laid BY PROGRAM, IN A SANDBOX (cutbox-rows.mjs): the forced cells as the released guide's own fill.sh prints them over the translation f689641a50cee0a6… (all of the seat's roots in one cut). By AI agents, Wed Nov 11 2026. No macro, syntax, notation, axiom, sorry.
-/
import Derived.Test.YbulkhwaChecked
import GoSem.Claim
import GoSem.ClaimJoined
import GoSem.ClaimMapViews
import Derived.JoinedTies
import Derived.KernelRfl
namespace Go.Proofs.Ybulkhwa
/- THE CELL 'sum', in the pinned program and in every row, IS THE sha256 OF THE DUMP (.gsa) THAT YbulkhwaProg.lean LOADS. Nothing in Lean hashes anything: it is a label: what it is worth is what the hold of that sum in a sandbox is worth. -/
noncomputable def Yba.pinned : Pinned := { name := "ybulkhwa", sum := "f689641a50cee0a6f2dfbc548ac3f89e74c89e652fd8672332963eb237dfa1ce", checked := Yba.checked }
namespace Rows
def none {H : Type} : Left H := { results := [], args := [] }

/-- 'locked.LawS0429AModel': WHATEVER THE INPUT: true; the input reads as it did. -/
def lawS0429AModelSpec : ChangeSpec := { name := "lawS0429AModel", fn := fun _ => fun
  | [d] => { results := [.lit (.bool true)], args := [d] }
  | _ => none }
def lawS0429AModelRow : OpenClaim := { program := "ybulkhwa", sum := "f689641a50cee0a6f2dfbc548ac3f89e74c89e652fd8672332963eb237dfa1ce", func := "example.com/interfoglio/interfoglio/locked.LawS0429AModel", spec := "lawS0429AModel", apart := false }
def LawS0429AModelSaid : Prop := lawS0429AModelRow.holds Yba.pinned (OpenSpec.ofChange lawS0429AModelSpec)

/-- ITS FALSE NEIGHBOUR: 'it returns false'. Refute it at one input. -/
def lawS0429AModelWrong : ChangeSpec := { name := "lawS0429AModel", fn := fun _ => fun
  | [d] => { results := [.lit (.bool false)], args := [d] }
  | _ => none }
def LawS0429AModelWrongFalsely : Prop := lawS0429AModelRow.holds Yba.pinned (OpenSpec.ofChange lawS0429AModelWrong)

/-- 'locking.LawS0429CWait': WHATEVER THE INPUT: true; the input reads as it did. -/
def lawS0429CWaitSpec : ChangeSpec := { name := "lawS0429CWait", fn := fun _ => fun
  | [d1, d2, d3, d4, d5, d6, d7, d8, d9, d10, d11, d12] => { results := [.lit (.bool true)], args := [d1, d2, d3, d4, d5, d6, d7, d8, d9, d10, d11, d12] }
  | _ => none }
def lawS0429CWaitRow : OpenClaim := { program := "ybulkhwa", sum := "f689641a50cee0a6f2dfbc548ac3f89e74c89e652fd8672332963eb237dfa1ce", func := "example.com/interfoglio/interfoglio/locking.LawS0429CWait", spec := "lawS0429CWait", unfollowed := true, recurses := true, apart := false }
def LawS0429CWaitSaid : Prop := lawS0429CWaitRow.holds Yba.pinned (OpenSpec.ofChange lawS0429CWaitSpec)

/-- ITS FALSE NEIGHBOUR: 'it returns false'. Refute it at one input. -/
def lawS0429CWaitWrong : ChangeSpec := { name := "lawS0429CWait", fn := fun _ => fun
  | [d1, d2, d3, d4, d5, d6, d7, d8, d9, d10, d11, d12] => { results := [.lit (.bool false)], args := [d1, d2, d3, d4, d5, d6, d7, d8, d9, d10, d11, d12] }
  | _ => none }
def LawS0429CWaitWrongFalsely : Prop := lawS0429CWaitRow.holds Yba.pinned (OpenSpec.ofChange lawS0429CWaitWrong)

end Rows
end Go.Proofs.Ybulkhwa

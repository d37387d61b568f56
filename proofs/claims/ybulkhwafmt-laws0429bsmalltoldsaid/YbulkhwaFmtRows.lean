/-
  No cell of these rows narrows 'for every input' (looked for: loops, veiled, ifaces, maps, wideKeys, modest, calm, conditions, laid).
  DERIVED. THE GIVEN ROWS OF THIS SEAT. 2 by the template 'for every input the law returns true; each argument reads behind the call as it read before'; 0 by the template 'total and deterministic' (their statements: YbulkhwaFmtTotals.lean).
  GIVEN WITH THE SEED: the statements are not yours to turn. If you find one false, say at which input.
  Laid BY PROGRAM, IN A SANDBOX (cutbox-rows.mjs): the forced cells as the released guide's own fill.sh prints them over the translation 135a624dd300bac8… (all of the seat's roots in one cut). By AI agents, Wed Nov 11 2026. No macro, syntax, notation, axiom, sorry.
-/
import Derived.Test.YbulkhwaFmtChecked
import GoSem.Claim
import GoSem.ClaimJoined
import GoSem.ClaimMapViews
import Derived.JoinedTies
import Derived.KernelRfl
namespace Go.Proofs.YbulkhwaFmt
/- THE CELL 'sum', in the pinned program and in every row, IS THE sha256 OF THE DUMP (.gsa) THAT YbulkhwaFmtProg.lean LOADS. Nothing in Lean hashes anything: it is a label: what it is worth is what the hold of that sum in a sandbox is worth. -/
noncomputable def Ybaf.pinned : Pinned := { name := "ybulkhwafmt", sum := "135a624dd300bac89b106bb0b47d9eebcc4434fae9d13091ccb605db275ef18e", checked := Ybaf.checked }
namespace Rows
def none {H : Type} : Left H := { results := [], args := [] }

/-- 'recovery.LawS0429BSmall': WHATEVER THE INPUT: true; the input reads as it did. -/
def lawS0429BSmallSpec : ChangeSpec := { name := "lawS0429BSmall", fn := fun _ => fun
  | [d] => { results := [.lit (.bool true)], args := [d] }
  | _ => none }
def lawS0429BSmallRow : OpenClaim := { program := "ybulkhwafmt", sum := "135a624dd300bac89b106bb0b47d9eebcc4434fae9d13091ccb605db275ef18e", func := "example.com/interfoglio/interfoglio/recovery.LawS0429BSmall", spec := "lawS0429BSmall", stops := ["fmt.Sprintf"], inPlace := ["fmt.Sprintf"], apart := false }
/-- NO THEOREM (fmt's text is open here; it may be false): for the released tool's asking of the row's closed facts alone. THE STATEMENT IS 'LawS0429BSmallToldSaid' (YbulkhwaFmtCards.lean). -/
def LawS0429BSmallFormAsk : Prop := lawS0429BSmallRow.holds Ybaf.pinned (OpenSpec.ofChange lawS0429BSmallSpec)

/-- ITS FALSE NEIGHBOUR: 'it returns false'. Refute it at one input. -/
def lawS0429BSmallWrong : ChangeSpec := { name := "lawS0429BSmall", fn := fun _ => fun
  | [d] => { results := [.lit (.bool false)], args := [d] }
  | _ => none }
def LawS0429BSmallWrongFormAsk : Prop := lawS0429BSmallRow.holds Ybaf.pinned (OpenSpec.ofChange lawS0429BSmallWrong)

/-- 'recovery.LawS0429BPick': WHATEVER THE INPUT: true; the input reads as it did. -/
def lawS0429BPickSpec : ChangeSpec := { name := "lawS0429BPick", fn := fun _ => fun
  | [d] => { results := [.lit (.bool true)], args := [d] }
  | _ => none }
def lawS0429BPickRow : OpenClaim := { program := "ybulkhwafmt", sum := "135a624dd300bac89b106bb0b47d9eebcc4434fae9d13091ccb605db275ef18e", func := "example.com/interfoglio/interfoglio/recovery.LawS0429BPick", spec := "lawS0429BPick", stops := ["fmt.Sprintf"], inPlace := ["fmt.Sprintf"], apart := false }
/-- NO THEOREM (fmt's text is open here; it may be false): for the released tool's asking of the row's closed facts alone. THE STATEMENT IS 'LawS0429BPickToldSaid' (YbulkhwaFmtCards.lean). -/
def LawS0429BPickFormAsk : Prop := lawS0429BPickRow.holds Ybaf.pinned (OpenSpec.ofChange lawS0429BPickSpec)

/-- ITS FALSE NEIGHBOUR: 'it returns false'. Refute it at one input. -/
def lawS0429BPickWrong : ChangeSpec := { name := "lawS0429BPick", fn := fun _ => fun
  | [d] => { results := [.lit (.bool false)], args := [d] }
  | _ => none }
def LawS0429BPickWrongFormAsk : Prop := lawS0429BPickRow.holds Ybaf.pinned (OpenSpec.ofChange lawS0429BPickWrong)

end Rows
end Go.Proofs.YbulkhwaFmt

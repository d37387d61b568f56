import Derived.Test.YbulkhwaFmtRows
import Derived.WalkKit
import Derived.WalkSpells
import Derived.Stop.CallBack
import Derived.Stop.IfaceNil
import GoSem.ClaimData
namespace Go.Proofs.YbulkhwaFmt
open Go.RowKit Go.Extern.Stop Go.Stop Go.Extern

/-! The closed facts of the walk over fmt.Sprintf (function 6, a stop) at this dump's numbers. -/
theorem call6 (args : Array Value) (w : World) : (callFunc 6 args).run Ybaf.prog w = ((FmtStop.sprintf #[9, 42] #[9] args).run Ybaf.prog w).andThen fun v w' => .ok (.value v) w' :=
  run_callFunc_extern Ybaf.func6 (by kernel_rfl) (by kernel_rfl) (by kernel_rfl) (by kernel_rfl) args w
theorem guard (name : String) (w : World) : (FmtStop.guard name).run Ybaf.prog w = .ok () w := by kernel_rfl
theorem fmt2 : FmtStop.printed? ⟨#[37, 100, 32, 119, 111, 114, 100, 115, 32, 97, 102, 116, 101, 114, 32, 105, 116]⟩ 1 = some [(0, 100, false)] := by kernel_rfl
theorem fmt2r (w : World) : (FmtDoors.printed ⟨#[37, 100, 32, 119, 111, 114, 100, 115, 32, 97, 102, 116, 101, 114, 32, 105, 116]⟩ 1).run Ybaf.prog w = .ok [(0, 100, false)] w := by kernel_rfl
def shape3 : List UInt8 := [5, 3, 0, 0, 0, 0, 0, 0, 0, 105, 110, 116]
theorem op3_100 (name : String) (x : Int) (w : World) : (FmtStop.operand name false 100 false (.iface 3 (.int .i64 x))).run Ybaf.prog w = .ok (shape3, Go.Extern.Stop.digits 8 (x % 2 ^ 64).toNat) w := by kernel_rfl

attribute [local go_sem] call6 guard fmt2 fmt2r op3_100

/-- 'wordsAfter' at 0. -/
theorem words0 (w : World) :
    Calls Ybaf.prog 5 #[.int .i64 0] w fun e w' => e = .returned (.string ⟨#[110, 111, 116, 104, 105, 110, 103, 32, 97, 102, 116, 101, 114, 32, 105, 116]⟩) ∧ w' = w := by
  go_enter Ybaf.func5, Ybaf.ntmps5
  go_wp2
  go_ret
  exact ⟨rfl, rfl⟩

/-- 'wordsAfter' at 1. -/
theorem words1 (w : World) :
    Calls Ybaf.prog 5 #[.int .i64 1] w fun e w' => e = .returned (.string ⟨#[49, 32, 119, 111, 114, 100, 32, 97, 102, 116, 101, 114, 32, 105, 116]⟩) ∧ w' = w := by
  go_enter Ybaf.func5, Ybaf.ntmps5
  go_wp2
  go_ret
  exact ⟨rfl, rfl⟩

/-- 'wordsAfter' at any other number: some text of fmt's; one new block. -/
theorem wordsN (F : Interp) (n : Int) (w : World) (hF : F.answers w.tape) (h0 : (n == 0) = false) (h1 : (n == 1) = false) :
    Calls Ybaf.prog 5 #[.int .i64 n] w fun e w' => (∃ s, e = .returned (.string s)) ∧ Below w.heap.size w w' := by
  have hF' := answers_open hF
  go_enter Ybaf.func5, Ybaf.ntmps5
  go_wp2
  go_ret
  exact ⟨⟨_, rfl⟩, ((Below.refl _ _).alloc (Nat.le_refl _) _).drew⟩

/-- LawS0429BSmall returns true. -/
theorem small_any (F : Interp) (n : Int) (w : World) (hF : F.answers w.tape) :
    Calls Ybaf.prog 3 #[.int .i64 n] w fun e w' => e = .returned (.bool true) ∧ Below w.heap.size w w' := by
  by_cases h0 : n = 0
  · subst h0
    go_enter Ybaf.func3, Ybaf.ntmps3
    go_wp2_with (go_at_call 5; refine (words0 _).mono ?_; rintro e w' ⟨rfl, rfl⟩)
    go_ret
    exact ⟨rfl, Below.refl _ _⟩
  · by_cases h1 : n = 1
    · subst h1
      go_enter Ybaf.func3, Ybaf.ntmps3
      go_wp2_with (go_at_call 5; refine (words1 _).mono ?_; rintro e w' ⟨rfl, rfl⟩)
      go_ret
      exact ⟨rfl, Below.refl _ _⟩
    · have g0 : (n == 0) = false := by simpa using h0
      have g1 : (n == 1) = false := by simpa using h1
      clear h0 h1
      go_enter Ybaf.func3, Ybaf.ntmps3
      go_wp2_with fail
      refine (wordsN F n _ hF g0 g1).mono ?_
      rintro e w' ⟨⟨s, rfl⟩, hb⟩
      go_wp2
      go_ret
      exact ⟨rfl, hb⟩

/-- LawS0429BPick returns true. -/
theorem pick_any (b : Bool) (w : World) :
    Calls Ybaf.prog 4 #[.bool b] w fun e w' => e = .returned (.bool true) ∧ Below w.heap.size w w' := by
  cases b
  · go_enter Ybaf.func4, Ybaf.ntmps4
    go_wp2_with (go_at_call 5; refine (words0 _).mono ?_; rintro e w' ⟨rfl, rfl⟩)
    go_ret
    exact ⟨rfl, Below.refl _ _⟩
  · go_enter Ybaf.func4, Ybaf.ntmps4
    go_wp2_with (go_at_call 5; refine (words1 _).mono ?_; rintro e w' ⟨rfl, rfl⟩)
    go_ret
    exact ⟨rfl, Below.refl _ _⟩

end Go.Proofs.YbulkhwaFmt

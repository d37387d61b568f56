import Derived.Test.YbulkhwaBase
namespace Go.Proofs.Ybulkhwa
open Go.RowKit

/-- What 'release' and 'grant' read. -/
structure Reads (bC bUI bH bHo bE u k : Nat) (h nn : Int) (ex : Bool) (w : World) : Prop where
  c3 : w.cell? ⟨bC, 3, none⟩ = some (.slice (some ⟨bUI, 0, none⟩) 9 9)
  c10 : w.cell? ⟨bC, 10, none⟩ = some (.slice (some ⟨bH, 0, none⟩) 9 9)
  c12 : w.cell? ⟨bC, 12, none⟩ = some (.slice (some ⟨bHo, 0, none⟩) 3 3)
  c13 : w.cell? ⟨bC, 13, none⟩ = some (.slice (some ⟨bE, 0, none⟩) 3 3)
  cu : w.cell? ⟨bUI, u, none⟩ = some (.int .i32 k)
  ch : w.cell? ⟨bH, u, none⟩ = some (.int .u8 h)
  cn : w.cell? ⟨bHo, k, none⟩ = some (.int .i32 nn)
  ce : w.cell? ⟨bE, k, none⟩ = some (.bool ex)
  fn : w.frozen? ⟨bHo, k, none⟩ = false
  fe : w.frozen? ⟨bE, k, none⟩ = false
  hu : u < 9
  hk : k < 3
  n0 : 0 ≤ nn
  n3 : nn ≤ 3
  e1 : bHo ≠ bC
  e2 : bHo ≠ bH
  e3 : bHo ≠ bE
  e4 : bHo ≠ bUI

set_option maxHeartbeats 400000 in
theorem rel0 {bC bUI bH bHo bE u k : Nat} {nn : Int} {ex : Bool} {w : World} (R : Reads bC bUI bH bHo bE u k 0 nn ex w) :
    Calls Yba.prog 16 #[.pointer (some ⟨bC, 0, none⟩), .int .i32 u] w fun e w' => e = .returned (.bool false) ∧ w' = w := by
  obtain ⟨c3, c10, c12, c13, cu, ch, cn, ce, fn, fe, hu, hk, n0, n3, e1, e2, e3, e4⟩ := R
  go_enter Yba.func16, Yba.ntmps16
  go_wp2
  go_ret
  exact ⟨rfl, rfl⟩

set_option maxHeartbeats 400000 in
theorem rel1 {bC bUI bH bHo bE u k : Nat} {nn : Int} {ex : Bool} {w : World} (R : Reads bC bUI bH bHo bE u k 1 nn ex w) :
    Calls Yba.prog 16 #[.pointer (some ⟨bC, 0, none⟩), .int .i32 u] w fun e w' => e = .returned (.bool true) ∧ w' = w.setCell ⟨bHo, k, none⟩ (.int .i32 (nn - 1)) := by
  obtain ⟨c3, c10, c12, c13, cu, ch, cn, ce, fn, fe, hu, hk, n0, n3, e1, e2, e3, e4⟩ := R
  go_enter Yba.func16, Yba.ntmps16
  go_wp2
  go_ret
  exact ⟨rfl, rfl⟩

set_option maxHeartbeats 400000 in
theorem rel2 {bC bUI bH bHo bE u k : Nat} {nn : Int} {ex : Bool} {w : World} (R : Reads bC bUI bH bHo bE u k 2 nn ex w) :
    Calls Yba.prog 16 #[.pointer (some ⟨bC, 0, none⟩), .int .i32 u] w fun e w' => e = .returned (.bool true) ∧ w' = (w.setCell ⟨bHo, k, none⟩ (.int .i32 (nn - 1))).setCell ⟨bE, k, none⟩ (.bool false) := by
  obtain ⟨c3, c10, c12, c13, cu, ch, cn, ce, fn, fe, hu, hk, n0, n3, e1, e2, e3, e4⟩ := R
  go_enter Yba.func16, Yba.ntmps16
  go_wp2
  go_ret
  exact ⟨rfl, rfl⟩

set_option maxHeartbeats 400000 in
theorem gr_a {bC bUI bH bHo bE u k : Nat} {nn want : Int} {ex : Bool} {w : World} (R : Reads bC bUI bH bHo bE u k 2 nn ex w) :
    Calls Yba.prog 17 #[.pointer (some ⟨bC, 0, none⟩), .int .i32 u, .int .u8 want] w fun e w' => e = .returned (.bool false) ∧ w' = w := by
  obtain ⟨c3, c10, c12, c13, cu, ch, cn, ce, fn, fe, hu, hk, n0, n3, e1, e2, e3, e4⟩ := R
  go_enter Yba.func17, Yba.ntmps17
  go_wp2
  go_ret
  exact ⟨rfl, rfl⟩

set_option maxHeartbeats 400000 in
theorem gr_b {bC bUI bH bHo bE u k : Nat} {nn : Int} {ex : Bool} {w : World} (R : Reads bC bUI bH bHo bE u k 1 nn ex w) :
    Calls Yba.prog 17 #[.pointer (some ⟨bC, 0, none⟩), .int .i32 u, .int .u8 1] w fun e w' => e = .returned (.bool false) ∧ w' = w := by
  obtain ⟨c3, c10, c12, c13, cu, ch, cn, ce, fn, fe, hu, hk, n0, n3, e1, e2, e3, e4⟩ := R
  go_enter Yba.func17, Yba.ntmps17
  go_wp2
  go_ret
  exact ⟨rfl, rfl⟩

set_option maxHeartbeats 400000 in
theorem gr_c {bC bUI bH bHo bE u k : Nat} {nn : Int} {ex : Bool} {w : World} (R : Reads bC bUI bH bHo bE u k 1 nn ex w) (h : 1 < nn) :
    Calls Yba.prog 17 #[.pointer (some ⟨bC, 0, none⟩), .int .i32 u, .int .u8 2] w fun e w' => e = .returned (.bool false) ∧ w' = w := by
  obtain ⟨c3, c10, c12, c13, cu, ch, cn, ce, fn, fe, hu, hk, n0, n3, e1, e2, e3, e4⟩ := R
  go_enter Yba.func17, Yba.ntmps17
  go_wp2
  go_ret
  exact ⟨rfl, rfl⟩

set_option maxHeartbeats 400000 in
theorem gr_d {bC bUI bH bHo bE u k : Nat} {nn : Int} {ex : Bool} {w : World} (R : Reads bC bUI bH bHo bE u k 1 nn ex w) (h : nn ≤ 1) :
    Calls Yba.prog 17 #[.pointer (some ⟨bC, 0, none⟩), .int .i32 u, .int .u8 2] w fun e w' => e = .returned (.bool true) ∧ w' = (w.setCell ⟨bE, k, none⟩ (.bool true)).drew := by
  obtain ⟨c3, c10, c12, c13, cu, ch, cn, ce, fn, fe, hu, hk, n0, n3, e1, e2, e3, e4⟩ := R
  have hk' : (k : Int) < 3 := by omega
  cases ex
  all_goals
    go_enter Yba.func17, Yba.ntmps17
    go_wp2
    go_region
    go_wp2
    go_ret
    exact ⟨rfl, rfl⟩

set_option maxHeartbeats 400000 in
theorem gr_e {bC bUI bH bHo bE u k : Nat} {nn : Int} {w : World} (R : Reads bC bUI bH bHo bE u k 0 nn true w) :
    Calls Yba.prog 17 #[.pointer (some ⟨bC, 0, none⟩), .int .i32 u, .int .u8 1] w fun e w' => e = .returned (.bool false) ∧ w' = w := by
  obtain ⟨c3, c10, c12, c13, cu, ch, cn, ce, fn, fe, hu, hk, n0, n3, e1, e2, e3, e4⟩ := R
  go_enter Yba.func17, Yba.ntmps17
  go_wp2
  go_ret
  exact ⟨rfl, rfl⟩

set_option maxHeartbeats 400000 in
theorem gr_f {bC bUI bH bHo bE u k : Nat} {nn : Int} {w : World} (R : Reads bC bUI bH bHo bE u k 0 nn false w) :
    Calls Yba.prog 17 #[.pointer (some ⟨bC, 0, none⟩), .int .i32 u, .int .u8 1] w fun e w' => e = .returned (.bool true) ∧ w' = ((w.setCell ⟨bHo, k, none⟩ (.int .i32 (nn + 1))).setCell ⟨bE, k, none⟩ (.bool false)).drew := by
  obtain ⟨c3, c10, c12, c13, cu, ch, cn, ce, fn, fe, hu, hk, n0, n3, e1, e2, e3, e4⟩ := R
  have hk' : (k : Int) < 3 := by omega
  go_enter Yba.func17, Yba.ntmps17
  go_wp2
  go_region
  go_wp2
  go_ret
  exact ⟨rfl, rfl⟩

set_option maxHeartbeats 400000 in
theorem gr_g {bC bUI bH bHo bE u k : Nat} {nn : Int} {ex : Bool} {w : World} (R : Reads bC bUI bH bHo bE u k 0 nn ex w) (h : 0 < nn) :
    Calls Yba.prog 17 #[.pointer (some ⟨bC, 0, none⟩), .int .i32 u, .int .u8 2] w fun e w' => e = .returned (.bool false) ∧ w' = w := by
  obtain ⟨c3, c10, c12, c13, cu, ch, cn, ce, fn, fe, hu, hk, n0, n3, e1, e2, e3, e4⟩ := R
  go_enter Yba.func17, Yba.ntmps17
  go_wp2
  go_ret
  exact ⟨rfl, rfl⟩

set_option maxHeartbeats 400000 in
theorem gr_h {bC bUI bH bHo bE u k : Nat} {nn : Int} {ex : Bool} {w : World} (R : Reads bC bUI bH bHo bE u k 0 nn ex w) (h : nn ≤ 0) :
    Calls Yba.prog 17 #[.pointer (some ⟨bC, 0, none⟩), .int .i32 u, .int .u8 2] w fun e w' => e = .returned (.bool true) ∧ w' = ((w.setCell ⟨bHo, k, none⟩ (.int .i32 (nn + 1))).setCell ⟨bE, k, none⟩ (.bool true)).drew := by
  obtain ⟨c3, c10, c12, c13, cu, ch, cn, ce, fn, fe, hu, hk, n0, n3, e1, e2, e3, e4⟩ := R
  have hk' : (k : Int) < 3 := by omega
  cases ex
  all_goals
    go_enter Yba.func17, Yba.ntmps17
    go_wp2
    go_region
    go_wp2
    go_ret
    exact ⟨rfl, rfl⟩

end Go.Proofs.Ybulkhwa

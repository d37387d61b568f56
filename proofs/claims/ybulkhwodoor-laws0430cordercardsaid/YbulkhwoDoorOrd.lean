import Derived.Test.YbulkhwoDoorApp
namespace Go.Proofs.YbulkhwoDoor
open Go.RowKit

/-- The order of two numbers, as the law has it. -/
def sgn (a c : Nat) : Int := if a < c then -1 else if c < a then 1 else 0

theorem ret_i64 {a b : Int} (h : a = b) : Ending.returned (.int .i64 a) = .returned (.int .i64 b) := by rw [h]

set_option maxHeartbeats 1000000 in
theorem cmp_any (bx by_ Gx Gy a c : Nat) (w : World) (hc : c < 10000000000000000000) (ha : a < 10000000000000000000)
    (hx : ∀ i, i < 19 → w.cell? ⟨bx, i, none⟩ = some (.int .u8 (D19 a i))) (hy : ∀ i, i < 19 → w.cell? ⟨by_, i, none⟩ = some (.int .u8 (D19 c i))) :
    Calls Ybad.prog 6 #[.slice (some ⟨bx, 0, none⟩) 19 Gx, .slice (some ⟨by_, 0, none⟩) 19 Gy] w fun e w' => e = .returned (.int .i64 (sgn a c)) ∧ ∃ n, w' = w.drewN n := by
  have HX : Hid (∀ i, i < 19 → w.cell? ⟨bx, i, none⟩ = some (.int .u8 (D19 a i))) := hx
  have HY : Hid (∀ i, i < 19 → w.cell? ⟨by_, i, none⟩ = some (.int .u8 (D19 c i))) := hy
  have HA : Hid (Pre a 19 = Pre c 19) := by show _ = _; rw [Pre_top a ha, Pre_top c hc]
  clear hx hy
  go_enter Ybad.func6, Ybad.ntmps6
  go_wp2
  go_loopw [6] (fun i wr => ∃ k q : Nat, k ≤ 19 ∧ i = .int .i64 k ∧ wr = w.drewN q ∧ Pre a (19 - k) = Pre c (19 - k)) (fun i _ => 19 - (intOf i).toNat)
  case atStart => exact ⟨0, 0, by omega, rfl, rfl, HA.out⟩
  case round =>
    obtain ⟨k, q, hk, rfl, hwr, hpr⟩ := hrel
    have HWR : Hid (wr = w.drewN q) := hwr
    have HPR : Hid (Pre a (19 - k) = Pre c (19 - k)) := hpr
    clear hwr hpr
    by_cases hlt : k < 19
    · have cx : wr.cell? ⟨bx, k, none⟩ = some (.int .u8 (D19 a k)) := by rw [HWR.out]; exact HX.out k hlt
      have cy : wr.cell? ⟨by_, k, none⟩ = some (.int .u8 (D19 c k)) := by rw [HWR.out]; exact HY.out k hlt
      have L1 : Hid (D19 a k < D19 c k → a < c) := less_at a c k hlt HPR.out
      have L2 : Hid (D19 c k < D19 a k → c < a) := less_at c a k hlt HPR.out.symm
      have L3 : Hid (D19 a k = D19 c k → Pre a (19 - (k + 1)) = Pre c (19 - (k + 1))) := same_at a c k hlt HPR.out
      have d1 := D19_lt a k
      have d2 := D19_lt c k
      generalize D19 a k = x at *
      generalize D19 c k = y at *
      have hi : (k : Int) < 19 := by omega
      by_cases h1 : x < y
      · have h1' : (x : Int) < (y : Int) := by omega
        have hac := L1.out h1
        go_wp2_with fail
        go_quiet (fail)
        go_wp2
        go_ret
        exact ⟨ret_i64 (by unfold sgn; rw [if_pos hac]), _, by rw [HWR.out, World.drewN_drewN]⟩
      · by_cases h2 : y < x
        · have h2' : (y : Int) < (x : Int) := by omega
          have h1' : ¬ (x : Int) < (y : Int) := by omega
          have hac := L2.out h2
          go_wp2_with fail
          go_quiet (fail)
          go_wp2
          go_quiet (fail)
          go_wp2
          go_ret
          exact ⟨ret_i64 (by unfold sgn; rw [if_neg (by omega), if_pos hac]), _, by rw [HWR.out, World.drewN_drewN, World.drewN_drewN]⟩
        · have hp := L3.out (by omega)
          have HP : Hid (Pre a (19 - (k + 1)) = Pre c (19 - (k + 1))) := hp
          clear hp
          have h2' : ¬ (y : Int) < (x : Int) := by omega
          have h1' : ¬ (x : Int) < (y : Int) := by omega
          go_wp2_with fail
          go_quiet (fail)
          go_wp2
          go_quiet (fail)
          go_wp2
          go_roundw
          case rel => exact ⟨k + 1, _, by omega, by go_num, by rw [HWR.out, World.drewN_drewN], HP.out⟩
          case measure => simp [intOf]; omega
    · obtain rfl : k = 19 := by omega
      have hac : a = c := by have := HPR.out; simpa [Pre_zero] using this
      go_wp2
      go_ret
      exact ⟨ret_i64 (by unfold sgn; rw [if_neg (by omega), if_neg (by omega)]), _, HWR.out⟩

set_option maxRecDepth 100000 in
set_option maxHeartbeats 1000000 in
theorem order_any (n1 n2 : Int) (w : World) (w1 : (Lit.int .u64 n1).wf = true) (w2 : (Lit.int .u64 n2).wf = true) (hB : 0 < w.heap.size) (hP : Pairs w) :
    Calls Ybad.prog 4 #[.int .u64 n1, .int .u64 n2] w fun e w' => e = .returned (.bool true) ∧ Below w.heap.size w w' := by
  have hn1 : 0 ≤ n1 ∧ n1 ≤ 18446744073709551615 := by
    simp [Lit.wf, IntKind.min, IntKind.max, IntKind.signed, IntKind.bits] at w1
    omega
  have hn2 : 0 ≤ n2 ∧ n2 ≤ 18446744073709551615 := by
    simp [Lit.wf, IntKind.min, IntKind.max, IntKind.signed, IntKind.bits] at w2
    omega
  clear w1 w2
  obtain ⟨a, ha⟩ : ∃ c : Nat, n1 % 10000000000000000000 = (c : Int) := ⟨(n1 % 10000000000000000000).toNat, by omega⟩
  obtain ⟨c, hc⟩ : ∃ c : Nat, n2 % 10000000000000000000 = (c : Int) := ⟨(n2 % 10000000000000000000).toNat, by omega⟩
  have hal : a < 10000000000000000000 := by omega
  have hcl : c < 10000000000000000000 := by omega
  have HP : Hid (Pairs w) := hP
  clear hP
  go_enter Ybad.func4, Ybad.ntmps4
  go_wp2_with fail
  refine (chunk_any none 0 a [] w hal (by omega) rfl (fun _ => rfl) (fun a h => by cases h) hB HP.out).mono ?_
  rintro e w1 ⟨G1, rfl, hG1, hch0⟩
  have hch1 : Hid (Chunk w.heap.size 0 a [] w w1) := hch0
  have hb1 : Below w.heap.size w w1 := hch0.below
  have hs1 : w.heap.size < w1.heap.size := hch0.size
  clear hch0
  go_wp2_with fail
  refine (chunk_any none 0 c [] w1 hcl (by omega) rfl (fun _ => rfl) (fun a h => by cases h) (by omega) (pairs_below hB hb1 HP.out)).mono ?_
  rintro e w2 ⟨G2, rfl, hG2, hch0⟩
  have hch2 : Hid (Chunk w1.heap.size 0 c [] w1 w2) := hch0
  have hb2 : Below w.heap.size w w2 := hb1.trans (hch0.below.mono (by omega))
  clear hch0
  have cx : Hid (∀ i, i < 19 → w2.cell? ⟨w.heap.size, i, none⟩ = some (.int .u8 (D19 a i))) := by
    intro i hi
    rw [hch2.out.below.cell (p := ⟨w.heap.size, i, none⟩) hs1]
    have := hch1.out.new i hi
    rwa [Nat.zero_add] at this
  have cy : Hid (∀ i, i < 19 → w2.cell? ⟨w1.heap.size, i, none⟩ = some (.int .u8 (D19 c i))) := by
    intro i hi
    have := hch2.out.new i hi
    rwa [Nat.zero_add] at this
  generalize w1.heap.size = B2 at *
  go_upto_if 18 with fail
  go_cut [7] (fun s wx => s = .int .i64 (sgn a c) ∧ wx = w2)
  case first =>
    by_cases h1 : a < c
    · have h1' : (a : Int) < (c : Int) := by omega
      go_wp2
      go_meet
      exact ⟨by unfold sgn; rw [if_pos h1], rfl⟩
    · by_cases h2 : c < a
      · have h1' : ¬ (a : Int) < (c : Int) := by omega
        have h2' : (c : Int) < (a : Int) := by omega
        go_wp2
        go_meet
        exact ⟨by unfold sgn; rw [if_neg h1, if_pos h2], rfl⟩
      · have h1' : ¬ (a : Int) < (c : Int) := by omega
        have h2' : ¬ (c : Int) < (a : Int) := by omega
        go_wp2
        go_meet
        exact ⟨by unfold sgn; rw [if_neg h1, if_neg h2], rfl⟩
  case rest =>
    obtain ⟨rfl, rfl⟩ := hcut
    have HC : Hid (Calls Ybad.prog 6 #[.slice (some ⟨w.heap.size, 0, none⟩) 19 G1, .slice (some ⟨B2, 0, none⟩) 19 G2] wc fun e w' => e = .returned (.int .i64 (sgn a c)) ∧ ∃ n, w' = wc.drewN n) := cmp_any _ _ G1 G2 a c wc hcl hal cx.out cy.out
    generalize sgn a c = sg at *
    go_wp2_with fail
    refine HC.out.mono ?_
    rintro e w4 ⟨rfl, n, rfl⟩
    go_wp2
    go_ret
    exact ⟨rfl, below_drewN hb2 _⟩

end Go.Proofs.YbulkhwoDoor

import Derived.Test.YbulkhwoRows
import Derived.WalkKit
import Derived.WalkSpells
import Derived.WalkLawsBesides
import Derived.Deep.QuietTactic
import Derived.BigQuiet
import Derived.BigRegion
import Derived.Deep.DeepCutAuto
namespace Go.Proofs.Ybulkhwo
open Go.RowKit

/-- z cut to its low k bits, as the Go text reckons it -/
def msk (z : Int) (k : Nat) : Int := bits BinOp.and IntKind.u64 z (IntKind.u64.wrap (IntKind.u64.wrap (2 ^ k) - 1))

theorem ret_u64 {a b : Int} (h : a = b) : Ending.returned (.int .u64 a) = .returned (.int .u64 b) := by rw [h]

set_option maxHeartbeats 400000 in
theorem exp_mid (b off len cap : Nat) (n : Int) (j : Nat) (z : Int) (w : World) (hl : len ≤ 1024) (hj : j < len) (h0 : 64 * (j : Int) < n) (h1 : n < 64 * (j : Int) + 64)
    (hc : w.cell? ⟨b, off + j, none⟩ = some (.int .u64 z)) :
    Calls Yba.prog 8 #[.slice (some ⟨b, off, none⟩) len cap, .int .i64 n, .int .i64 j] w fun e w' => e = .returned (.int .u64 (msk z (n - 64 * (j : Int)).toNat)) ∧ w' = w := by
  go_enter Yba.func8, Yba.ntmps8
  go_wp2
  go_ret
  exact ⟨ret_u64 rfl, rfl⟩

set_option maxHeartbeats 400000 in
theorem exp_hi (b off len cap : Nat) (n : Int) (j : Nat) (z : Int) (w : World) (hl : len ≤ 1024) (hj : j < len) (h0 : 64 * (j : Int) + 64 ≤ n) (h1 : n ≤ 9223372036854775807)
    (hc : w.cell? ⟨b, off + j, none⟩ = some (.int .u64 z)) :
    Calls Yba.prog 8 #[.slice (some ⟨b, off, none⟩) len cap, .int .i64 n, .int .i64 j] w fun e w' => e = .returned (.int .u64 z) ∧ w' = w := by
  go_enter Yba.func8, Yba.ntmps8
  go_wp2
  go_ret
  exact ⟨rfl, rfl⟩

set_option maxHeartbeats 400000 in
theorem low_hi (a : Option Addr) (len cap : Nat) (n : Int) (w : World) (hl : len ≤ 1024) (h0 : 64 * (len : Int) ≤ n) :
    Calls Yba.prog 7 #[.slice a len cap, .int .i64 n] w fun e w' => e = .returned (.slice a len cap) ∧ w' = w := by
  go_enter Yba.func7, Yba.ntmps7
  go_wp2
  go_ret
  exact ⟨rfl, rfl⟩

set_option maxHeartbeats 400000 in
theorem low_even (b off len cap : Nat) (n : Int) (q : Nat) (w : World) (hl : len ≤ 1024) (hcap : len ≤ cap) (hq : q < len) (h0 : n = 64 * (q : Int)) :
    Calls Yba.prog 7 #[.slice (some ⟨b, off, none⟩) len cap, .int .i64 n] w fun e w' => e = .returned (.slice (some ⟨b, off, none⟩) q cap) ∧ w' = w := by
  have e1 : ((n + 63) / 64) = (q : Int) := by omega
  have e2 : (n % 64 != 0) = false := by simp; omega
  have h2 : 0 ≤ n := by omega
  have h3 : n < 64 * (len : Int) := by omega
  clear h0
  go_enter Yba.func7, Yba.ntmps7
  go_wp2
  go_ret
  exact ⟨rfl, rfl⟩

set_option maxHeartbeats 400000 in
theorem low_odd (b off len cap : Nat) (n : Int) (q : Nat) (z : Int) (w : World) (hl : len ≤ 1024) (hcap : len ≤ cap) (hq : q < len) (h0 : 64 * (q : Int) < n) (h1 : n < 64 * (q : Int) + 64)
    (hc : w.cell? ⟨b, off + q, none⟩ = some (.int .u64 z)) (hf : w.frozen? ⟨b, off + q, none⟩ = false) :
    Calls Yba.prog 7 #[.slice (some ⟨b, off, none⟩) len cap, .int .i64 n] w fun e w' => e = .returned (.slice (some ⟨b, off, none⟩) (q + 1) cap) ∧
      w' = (w.setCell ⟨b, off + q, none⟩ (.int .u64 (msk z (n - 64 * (q : Int)).toNat))).drew := by
  have e1 : ((n + 63) / 64) = (q : Int) + 1 := by omega
  have e2 : (n % 64 != 0) = true := by simp; omega
  have e3 : n % 64 = n - 64 * (q : Int) := by omega
  have h3 : n < 64 * (len : Int) := by omega
  go_enter Yba.func7, Yba.ntmps7
  go_wp2
  go_region
  go_wp2
  go_ret
  exact ⟨rfl, rfl⟩

/-- What the walk is told of a slice of integers that came in. -/
def IsRow (k : IntKind) (w : World) (a : Option Addr) (len cap : Nat) (zs : List Int) : Prop :=
  (a = none ∧ len = 0 ∧ cap = 0 ∧ zs = []) ∨
  ∃ x, a = some x ∧ len ≤ cap ∧ cap ≤ maxLen ∧ zs.length = cap ∧ (∀ i, i < zs.length → w.cell? (x.add i) = some (.int k (zs.getD i 0))) ∧ ∀ n ∈ zs, (Lit.int k n).wf = true

theorem info30 : (Yba.prog.info? 30).map (fun i => (i.zero, i.size, i.bytes)) = some (some (.int .u64 0), 1, 8) := by kernel_rfl
theorem info30s : (Yba.prog.info? 30).map (·.size) = some 1 := by kernel_rfl

theorem below_setCells (B : Nat) : ∀ (vs : List Value) (o : Nat) {w0 w : World}, Below B w0 w → Below B w0 (w.setCells B o vs)
  | [], _, _, _, h => h
  | v :: r, o, _, _, h => below_setCells B r (o + 1) (h.setCell (Nat.le_refl _) v)

/-- The copy: a new block B that holds the row's first len numbers. -/
theorem mk_copy (w : World) (a0 : Option Addr) (len cap : Nat) (zs : List Int) (h : IsRow .u64 w a0 len cap zs) (hl : len ≤ 1024) :
    ∃ (M : Array Value) (w2 : World), (Instr.makeSlice 28 (.int .i64 len) (.int .i64 len)).run Yba.prog w = .ok (.slice (some ⟨w.heap.size, 0, none⟩) len len) (w.alloc (.cells M 30)) ∧
      (∀ ty, (Builtin.copy_ #[28, 28] ty #[.slice (some ⟨w.heap.size, 0, none⟩) len len, .slice a0 len cap]).run Yba.prog (w.alloc (.cells M 30)) = .ok (goInt len) w2) ∧
      (∀ j, j < len → w2.cell? ⟨w.heap.size, j, none⟩ = some (.int .u64 (zs.getD j 0))) ∧ (∀ j, w2.frozen? ⟨w.heap.size, j, none⟩ = false) ∧ Below w.heap.size w w2 := by
  obtain ⟨i, hi, hz0, hz1, hz2⟩ := info_parts info30
  have hrun := run_make (P := Yba.prog) w 28 30 i (.int .u64 0) Yba.underlying28 hi hz0 .i64 .i64 len len (by omega) (Int.le_refl _) (by rw [hz2]; omega) (by omega)
  simp only [Int.toNat_natCast, hz1, Nat.mul_one] at hrun
  have hM : (madeCells (Value.int .u64 0).cells len).size = len := size_madeCells _ _
  generalize madeCells (Value.int .u64 0).cells len = M at hrun hM
  rcases h with ⟨rfl, rfl, rfl, rfl⟩ | ⟨x, rfl, hlc, hcm, hz, hcell, _⟩
  · exact ⟨M, _, hrun, fun ty => run_copy_none _ 28 28 ty 30 _ _ _ _ _ _ Yba.underlying28 info30s rfl, fun j hj => absurd hj (by omega), fun j => by simp, (Below.refl _ _).alloc (Nat.le_refl _) _⟩
  · have hcs : ((zs.take len).map (Value.int .u64)).length = len := by simp; omega
    have hget : ∀ j, j < len → ((zs.take len).map (Value.int .u64))[j]? = some (.int .u64 (zs.getD j 0)) := by
      intro j hj
      rw [List.getElem?_map, List.getElem?_take, if_pos hj, List.getElem?_eq_getElem (by omega)]
      simp [List.getD, List.getElem?_eq_getElem (show j < zs.length by omega)]
    have hc : ∀ j, j < len → ((w.alloc (.cells M 30)).cell? ⟨w.heap.size, 0 + j, none⟩).isSome = true := by
      intro j hj
      rw [World.cell?_alloc_new, Nat.zero_add, Array.getElem?_eq_getElem (by omega)]
      rfl
    refine ⟨M, (w.alloc (.cells M 30)).setCells w.heap.size 0 ((zs.take len).map (Value.int .u64)), hrun, fun ty => ?_, ?_, ?_, ?_⟩
    · have := run_copy_cells (P := Yba.prog) (w.alloc (.cells M 30)) 28 28 ty 30 w.heap.size 0 len len x len cap ((zs.take len).map (Value.int .u64)) Yba.underlying28 info30s (by rw [hcs]; simp)
        (fun j v hj => ?_) (fun j hj => hc j (by omega)) (fun j _ => by simp) (fun v hv => ?_)
      · rw [hcs] at this; exact this
      · have hjl : j < len := by
          have := (List.getElem?_eq_some_iff.1 hj).1
          omega
        rw [hget j hjl] at hj
        have h1 := hcell j (by omega)
        rw [← Option.some.inj hj]
        rw [World.cell?_alloc_lt _ _ _ (World.block_lt_of_cell? w _ h1)]
        exact h1
      · obtain ⟨z, _, rfl⟩ := List.mem_map.1 hv
        rfl
    · intro j hj
      have := World.cell?_setCells_in w.heap.size ((zs.take len).map (Value.int .u64)) 0 (w.alloc (.cells M 30)) (fun j hj => hc j (by omega)) j (by omega)
      rw [Nat.zero_add] at this
      rw [this]
      have h2 := hget j hj
      rw [List.getElem?_eq_getElem (by omega)] at h2
      exact h2
    · intro j
      rw [World.frozen?_setCells]
      simp
    · exact below_setCells _ _ _ ((Below.refl _ _).alloc (Nat.le_refl _) _)

end Go.Proofs.Ybulkhwo

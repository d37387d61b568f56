import Derived.Test.YbulkhwoDoorApp
import Derived.OpenShut
namespace Go.Proofs.YbulkhwoDoor
open Go.RowKit

/-- What the walk is told of a slice of integers that came in. -/
def IsRow (k : IntKind) (w : World) (a : Option Addr) (len cap : Nat) (zs : List Int) : Prop :=
  (a = none ∧ len = 0 ∧ cap = 0 ∧ zs = []) ∨
  ∃ x, a = some x ∧ len ≤ cap ∧ cap ≤ maxLen ∧ zs.length = cap ∧ (∀ i, i < zs.length → w.cell? (x.add i) = some (.int k (zs.getD i 0))) ∧ ∀ n ∈ zs, (Lit.int k n).wf = true

theorem info5s : (Ybad.prog.info? 5).map (·.size) = some 1 := by kernel_rfl

theorem below_setCells (B : Nat) : ∀ (vs : List Value) (o : Nat) {w0 w : World}, Below B w0 w → Below B w0 (w.setCells B o vs)
  | [], _, _, _, h => h
  | v :: r, o, _, _, h => below_setCells B r (o + 1) (h.setCell (Nat.le_refl _) v)

theorem size_setCells (B : Nat) : ∀ (vs : List Value) (o : Nat) (w : World), (w.setCells B o vs).heap.size = w.heap.size
  | [], _, _ => rfl
  | v :: r, o, w => by
    show ((w.setCell ⟨B, o, none⟩ v).setCells B (o + 1) r).heap.size = _
    rw [size_setCells B r (o + 1), World.size_setCell]

/-- The copy: a new block B that holds the row's first len numbers. -/
theorem mk_copy (w : World) (a0 : Option Addr) (len cap : Nat) (zs : List Int) (h : IsRow .u8 w a0 len cap zs) (hl : len ≤ 1024) :
    ∃ (M : Array Value) (w2 : World), (Instr.makeSlice 22 (.int .i64 len) (.int .i64 len)).run Ybad.prog w = .ok (.slice (some ⟨w.heap.size, 0, none⟩) len len) (w.alloc (.cells M 5)) ∧
      (∀ ty, (Builtin.copy_ #[22, 22] ty #[.slice (some ⟨w.heap.size, 0, none⟩) len len, .slice a0 len cap]).run Ybad.prog (w.alloc (.cells M 5)) = .ok (goInt len) w2) ∧
      (∀ j, j < len → w2.cell? ⟨w.heap.size, j, none⟩ = some (.int .u8 (zs.getD j 0))) ∧ w2.heap.size = w.heap.size + 1 ∧ Below w.heap.size w w2 := by
  obtain ⟨i, hi, hz0, hz1, hz2⟩ := info_parts info5
  have hrun := run_make (P := Ybad.prog) w 22 5 i (.int .u8 0) Ybad.underlying22 hi hz0 .i64 .i64 len len (by omega) (Int.le_refl _) (by rw [hz2]; omega) (by omega)
  simp only [Int.toNat_natCast, hz1, Nat.mul_one] at hrun
  have hM : (madeCells (Value.int .u8 0).cells len).size = len := size_madeCells _ _
  generalize madeCells (Value.int .u8 0).cells len = M at hrun hM
  rcases h with ⟨rfl, rfl, rfl, rfl⟩ | ⟨x, rfl, hlc, hcm, hz, hcell, _⟩
  · exact ⟨M, _, hrun, fun ty => run_copy_none _ 22 22 ty 5 _ _ _ _ _ _ Ybad.underlying22 info5s rfl, fun j hj => absurd hj (by omega), by simp, (Below.refl _ _).alloc (Nat.le_refl _) _⟩
  · have hcs : ((zs.take len).map (Value.int .u8)).length = len := by simp; omega
    have hget : ∀ j, j < len → ((zs.take len).map (Value.int .u8))[j]? = some (.int .u8 (zs.getD j 0)) := by
      intro j hj
      rw [List.getElem?_map, List.getElem?_take, if_pos hj, List.getElem?_eq_getElem (by omega)]
      simp [List.getD, List.getElem?_eq_getElem (show j < zs.length by omega)]
    have hc : ∀ j, j < len → ((w.alloc (.cells M 5)).cell? ⟨w.heap.size, 0 + j, none⟩).isSome = true := by
      intro j hj
      rw [World.cell?_alloc_new, Nat.zero_add, Array.getElem?_eq_getElem (by omega)]
      rfl
    refine ⟨M, (w.alloc (.cells M 5)).setCells w.heap.size 0 ((zs.take len).map (Value.int .u8)), hrun, fun ty => ?_, ?_, ?_, ?_⟩
    · have := run_copy_cells (P := Ybad.prog) (w.alloc (.cells M 5)) 22 22 ty 5 w.heap.size 0 len len x len cap ((zs.take len).map (Value.int .u8)) Ybad.underlying22 info5s (by rw [hcs]; simp)
        (fun j v hj => ?_) (fun j hj => hc j (by omega)) (fun j _ => by simp) (fun v hv => ?_)
      · rw [hcs] at this; exact this
      · have hjl : j < len := by
          have := (List.getElem?_eq_some_iff.1 hj).1
          omega
        rw [hget j hjl] at hj
        have h1 := hcell j (by omega)
        rw [← Option.some.inj hj]
        rw [World.cell?_alloc_lt _ _ _ (World.block_lt_of_cell? w _ h1)]
        exact h1
      · obtain ⟨z, _, rfl⟩ := List.mem_map.1 hv
        rfl
    · intro j hj
      have := World.cell?_setCells_in w.heap.size ((zs.take len).map (Value.int .u8)) 0 (w.alloc (.cells M 5)) (fun j hj => hc j (by omega)) j (by omega)
      rw [Nat.zero_add] at this
      rw [this]
      have h2 := hget j hj
      rw [List.getElem?_eq_getElem (by omega)] at h2
      exact h2
    · rw [size_setCells]; simp
    · exact below_setCells _ _ _ ((Below.refl _ _).alloc (Nat.le_refl _) _)

theorem row_open {w : World} {a0 : Option Addr} {len0 cap0 : Nat} {z0 : List Int} (h : IsRow .u8 w a0 len0 cap0 z0) :
    0 < len0 → ∃ b off, a0 = some ⟨b, off, none⟩ ∧ b < w.heap.size ∧ ∀ j, j < len0 → w.cell? ⟨b, off + j, none⟩ = some (.int .u8 (z0.getD j 0)) := by
  intro hp
  rcases h with ⟨_, rfl, _⟩ | ⟨x, rfl, hlc, _, hz, hcell, _⟩
  · omega
  · obtain ⟨b, off, rfl, hc⟩ := ints_at hcell (by omega)
    exact ⟨b, off, rfl, World.block_lt_of_cell? w _ (hc 0 (by omega)), fun j hj => hc j (by omega)⟩

/-- the cells as a list -/
def rowVals (z : Nat → Int) (len : Nat) : List Value := (List.range len).map fun j => .int .u8 (z j)
theorem rowVals_length (z : Nat → Int) (len : Nat) : (rowVals z len).length = len := by simp [rowVals]
theorem rowVals_get (z : Nat → Int) (len j : Nat) (hj : j < len) : (rowVals z len)[j]? = some (.int .u8 (z j)) := by
  simp [rowVals, List.getElem?_range hj]
theorem rowVals_some (z : Nat → Int) (len j : Nat) (v : Value) (h : (rowVals z len)[j]? = some v) : j < len ∧ v = .int .u8 (z j) := by
  have hj : j < len := by rw [← rowVals_length z len]; exact (List.getElem?_eq_some_iff.1 h).1
  rw [rowVals_get z len j hj] at h
  exact ⟨hj, (Option.some.inj h).symm⟩

set_option maxRecDepth 100000 in
set_option maxHeartbeats 1000000 in
theorem digits_any (a0 : Option Addr) (len0 cap0 : Nat) (z0 : List Int) (n : Int) (w : World) (w0 : IsRow .u8 w a0 len0 cap0 z0) (w1 : (Lit.int .u64 n).wf = true) (hB : 0 < w.heap.size) (hP : Pairs w) :
    Calls Ybad.prog 3 #[.slice a0 len0 cap0, .int .u64 n] w fun e w' => e = .returned (.bool true) ∧ Below w.heap.size w w' := by
  have hn : 0 ≤ n ∧ n ≤ 18446744073709551615 := by
    simp [Lit.wf, IntKind.min, IntKind.max, IntKind.signed, IntKind.bits] at w1
    omega
  clear w1
  by_cases hl : len0 ≤ 1024
  · obtain ⟨M, w2, hmk, hcp, hc2, hs2, hb2⟩ := mk_copy w a0 len0 cap0 z0 w0 hl
    obtain ⟨c, hc⟩ : ∃ c : Nat, (c : Int) = n % 10000000000000000000 := ⟨(n % 10000000000000000000).toNat, by omega⟩
    have hcl : c < 10000000000000000000 := by omega
    have hc' : n % 10000000000000000000 = (c : Int) := hc.symm
    have HC2 : Hid (∀ j, j < len0 → w2.cell? ⟨w.heap.size, j, none⟩ = some (.int .u8 (z0.getD j 0))) := hc2
    have HW : Hid (IsRow .u8 w a0 len0 cap0 z0) := w0
    have HP : Hid (Pairs w) := hP
    have HS : Hid (w2.heap.size = w.heap.size + 1) := hs2
    clear hc2 w0 hP hc hs2
    go_enter Ybad.func3, Ybad.ntmps3
    go_wp2_with fail
    refine (chunk_any (some ⟨w.heap.size, 0, none⟩) len0 c (rowVals (fun j => z0.getD j 0) len0) w2 hcl hl (rowVals_length _ _) (fun h => by cases h) (fun a ha j v hj => ?_) (by rw [HS.out]; omega) (pairs_below hB hb2 HP.out)).mono ?_
    · obtain ⟨hjl, rfl⟩ := rowVals_some _ _ _ _ hj
      obtain rfl := Option.some.inj ha
      have := HC2.out j hjl
      rw [Go.WideShapes.add_plain, Nat.zero_add]
      exact this
    rintro e w3 ⟨G, rfl, hG, hch0⟩
    have hch : Hid (Chunk w2.heap.size len0 c (rowVals (fun j => z0.getD j 0) len0) w2 w3) := hch0
    have hb3 : Below w.heap.size w w3 := hb2.trans (hch0.below.mono (by rw [HS.out]; omega))
    clear hch0 hcp hmk hb2
    generalize w2.heap.size = B at *
    have HOP : Hid (0 < len0 → ∃ b off, a0 = some ⟨b, off, none⟩ ∧ b < w.heap.size ∧ ∀ j, j < len0 → w.cell? ⟨b, off + j, none⟩ = some (.int .u8 (z0.getD j 0))) := row_open HW.out
    go_wp2
    go_loopw [7] (fun i wr => ∃ k q : Nat, k ≤ len0 ∧ i = .int .i64 k ∧ wr = w3.drewN q) (fun i _ => len0 - (intOf i).toNat)
    case atStart => exact ⟨0, 0, Nat.zero_le _, rfl, rfl⟩
    case round =>
      obtain ⟨k, q, hk, rfl, hwr⟩ := hrel
      have HWR : Hid (wr = w3.drewN q) := hwr
      clear hwr
      by_cases hlt : k < len0
      · obtain ⟨b, off, rfl, hbw, hca⟩ := HOP.out (by omega)
        have hy : wr.cell? ⟨B, k, none⟩ = some (.int .u8 (z0.getD k 0)) := by rw [HWR.out]; exact hch.out.old k _ (rowVals_get _ _ _ hlt)
        have hz : wr.cell? ⟨b, off + k, none⟩ = some (.int .u8 (z0.getD k 0)) := by rw [HWR.out]; exact (hb3.cell (p := ⟨b, off + k, none⟩) hbw).trans (hca k (by omega))
        clear hca
        generalize z0.getD k 0 = zk at hy hz
        have hi1 : (k : Int) < (len0 : Int) := by omega
        have hi2 : (k : Int) < (len0 : Int) + 19 := by omega
        have hi3 : (k : Int) < ((len0 + 19 : Nat) : Int) := by omega
        go_wp2_with fail
        go_quiet (fail)
        go_wp2
        go_roundw
        case rel => exact ⟨k + 1, _, by omega, by go_num, by rw [HWR.out, World.drewN_drewN]⟩
        case measure => simp [intOf]; omega
      · have hwrb : Hid (Below w.heap.size w wr) := by
          show Below _ _ _
          rw [HWR.out]; exact below_drewN hb3 _
        have hcell : Hid (∀ i, i < 19 → wr.cell? ⟨B, len0 + i, none⟩ = some (.int .u8 (D19 c i))) := by
          intro i hi
          rw [HWR.out]; exact hch.out.new i hi
        clear HWR
        go_wp2
        go_loop [8, 9] (fun x i => ∃ k : Nat, k ≤ 19 ∧ x = .int .u64 (Pre c k) ∧ i = .int .i64 (18 - (k : Int))) (fun _ i => (intOf i + 1).toNat)
        case atStart => exact ⟨0, by omega, by rw [Pre_zero], by go_num⟩
        case round =>
          obtain ⟨k2, hk2, rfl, rfl⟩ := hrel
          have hpb : Pre c k2 < 10000000000000000000 := Nat.lt_of_le_of_lt (Nat.div_le_self _ _) hcl
          by_cases hlt2 : k2 < 19
          · have hcc := hcell.out (18 - k2) (by omega)
            rw [D19_pre, show 18 - (18 - k2) = k2 by omega] at hcc
            have hpre : Hid (Pre c (k2 + 1) = Pre c k2 / 10) := Pre_succ c k2
            generalize Pre c k2 = x at *
            obtain ⟨j, hj⟩ : ∃ j : Nat, (18 : Int) - (k2 : Int) = (j : Int) := ⟨18 - k2, by omega⟩
            have hjk : j = 18 - k2 := by omega
            rw [← hjk] at hcc
            rw [hj]
            have HJ : Hid ((18 : Int) - (k2 : Int) = (j : Int)) := hj
            have hj18 : j ≤ 18 := by omega
            clear hj hjk
            go_wp2
            go_round
            case rel =>
              refine ⟨k2 + 1, by omega, by rw [hpre.out]; go_num, ?_⟩
              have := HJ.out
              congr 1
              omega
            case measure => simp [intOf]
          · go_wp2
            go_ret
            exact ⟨rfl, hwrb.out⟩
  · have hl' : (1024 : Int) < len0 := by omega
    go_enter Ybad.func3, Ybad.ntmps3
    go_wp2
    go_ret
    exact ⟨rfl, Below.refl _ _⟩

end Go.Proofs.YbulkhwoDoor

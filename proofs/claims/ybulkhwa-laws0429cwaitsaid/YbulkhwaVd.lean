import Derived.Test.YbulkhwaGr
import Derived.Lib.LazyBuf
namespace Go.Proofs.Ybulkhwa
open Go.RowKit

def upd {α : Type} (f : Nat → α) (k : Nat) (v : α) : Nat → α := fun j => if j = k then v else f j
theorem upd_same {α : Type} (f : Nat → α) (k : Nat) (v : α) : upd f k v k = v := by simp [upd]
theorem upd_other {α : Type} (f : Nat → α) (k j : Nat) (v : α) (h : j ≠ k) : upd f k v j = f j := by simp [upd, h]

def i32s (f : Nat → Int) : Nat → Value := fun j => .int .i32 (f j)
def u8s (f : Nat → Int) : Nat → Value := fun j => .int .u8 (f j)
def bools (f : Nat → Bool) : Nat → Value := fun j => .bool (f j)

theorem Row.setI32 {w : World} {b n : Nat} {f : Nat → Int} (h : Row w b n (i32s f)) (i : Nat) (hi : i < n) (v : Int) : Row (w.setCell ⟨b, i, none⟩ (.int .i32 v)) b n (i32s (upd f i v)) :=
  (h.set i hi _).congr fun j _ => by by_cases e : j = i <;> simp [i32s, upd, e]
theorem Row.setU8 {w : World} {b n : Nat} {f : Nat → Int} (h : Row w b n (u8s f)) (i : Nat) (hi : i < n) (v : Int) : Row (w.setCell ⟨b, i, none⟩ (.int .u8 v)) b n (u8s (upd f i v)) :=
  (h.set i hi _).congr fun j _ => by by_cases e : j = i <;> simp [u8s, upd, e]
theorem Row.setBool {w : World} {b n : Nat} {f : Nat → Bool} (h : Row w b n (bools f)) (i : Nat) (hi : i < n) (v : Bool) : Row (w.setCell ⟨b, i, none⟩ (.bool v)) b n (bools (upd f i v)) :=
  (h.set i hi _).congr fun j _ => by by_cases e : j = i <;> simp [bools, upd, e]

/-- the verdict 'Holds': its first slice is nil -/
theorem holds_any (a : Option Addr) (n c : Nat) (v : Value) (w : World) : Calls Yba.prog 14 #[.agg #[.slice a n c, v]] w fun e w' => e = .returned (.bool a.isNone) ∧ w' = w.alloc (.cells #[.slice a n c, v] 36) := by
  have hk := fun wx => run_eql_slice_nil (P := Yba.prog) wx 23 30 a n c Yba.underlying23
  go_enter Yba.func14, Yba.ntmps14
  go_wp2
  go_ret
  exact ⟨rfl, rfl⟩

theorem zero36 (w : World) : (zeroValue 36).run Yba.prog w = .ok (.agg #[.slice none 0 0, .slice none 0 0]) w := by kernel_rfl
theorem info30 : (Yba.prog.info? 30).map (fun i => (i.zero, i.size, i.bytes)) = some (some (.agg #[.int .u8 0, .int .i64 0, .string ⟨#[]⟩]), 3, 32) := by kernel_rfl
theorem info3 : (Yba.prog.info? 3).map (fun i => (i.zero, i.size, i.bytes)) = some (some (.int .i64 0), 1, 8) := by kernel_rfl
theorem info21 : (Yba.prog.info? 21).map (fun i => (i.zero, i.size, i.bytes)) = some (some (.int .i32 0), 1, 4) := by kernel_rfl

/-- the cells of m zero operations -/
def opZ (m : Nat) : Array Value := madeCells #[.int .u8 0, .int .i64 0, .string ⟨#[]⟩] (m * 3)
def i64Z (m : Nat) : Array Value := madeCells #[.int .i64 0] m
def i32Z (m : Nat) : Array Value := madeCells #[.int .i32 0] m

theorem mk23 (m : Nat) (w : World) (h : m ≤ 1024) : (Instr.makeSlice 23 (.int .i64 m) (.int .i64 m)).run Yba.prog w = .ok (.slice (some ⟨w.heap.size, 0, none⟩) m m) (w.alloc (.cells (opZ m) 30)) := by
  obtain ⟨i, hi, hz0, hz1, hz2⟩ := info_parts info30
  have := run_make (P := Yba.prog) w 23 30 i _ Yba.underlying23 hi hz0 .i64 .i64 m m (by omega) (Int.le_refl _) (by rw [hz2]; omega) (by omega)
  simp only [Int.toNat_natCast, hz1] at this
  exact this
theorem mk34 (m : Nat) (w : World) (h : m ≤ 1024) : (Instr.makeSlice 34 (.int .i64 m) (.int .i64 m)).run Yba.prog w = .ok (.slice (some ⟨w.heap.size, 0, none⟩) m m) (w.alloc (.cells (i64Z m) 3)) := by
  obtain ⟨i, hi, hz0, hz1, hz2⟩ := info_parts info3
  have := run_make (P := Yba.prog) w 34 3 i _ Yba.underlying34 hi hz0 .i64 .i64 m m (by omega) (Int.le_refl _) (by rw [hz2]; omega) (by omega)
  simp only [Int.toNat_natCast, hz1, Nat.mul_one] at this
  exact this
theorem mk24 (m : Nat) (w : World) (h : m ≤ 1024) : (Instr.makeSlice 24 (.int .i64 m) (.int .i64 m)).run Yba.prog w = .ok (.slice (some ⟨w.heap.size, 0, none⟩) m m) (w.alloc (.cells (i32Z m) 21)) := by
  obtain ⟨i, hi, hz0, hz1, hz2⟩ := info_parts info21
  have := run_make (P := Yba.prog) w 24 21 i _ Yba.underlying24 hi hz0 .i64 .i64 m m (by omega) (Int.le_refl _) (by rw [hz2]; omega) (by omega)
  simp only [Int.toNat_natCast, hz1, Nat.mul_one] at this
  exact this

/-- four new blocks, a draw -/
theorem four (w : World) (o0 o1 o2 o3 : Obj) : ((((w.alloc o0).alloc o1).alloc o2).alloc o3).drew.heap[w.heap.size]? = some o0 ∧ ((((w.alloc o0).alloc o1).alloc o2).alloc o3).drew.heap[w.heap.size + 1]? = some o1 ∧
    ((((w.alloc o0).alloc o1).alloc o2).alloc o3).drew.heap[w.heap.size + 1 + 1]? = some o2 ∧ ((((w.alloc o0).alloc o1).alloc o2).alloc o3).drew.heap[w.heap.size + 1 + 1 + 1]? = some o3 ∧
    Only [] w ((((w.alloc o0).alloc o1).alloc o2).alloc o3).drew := by
  have e : ((((w.alloc o0).alloc o1).alloc o2).alloc o3).drew.heap = (((w.heap.push o0).push o1).push o2).push o3 := rfl
  refine ⟨?_, ?_, ?_, ?_, ((((Only.refl [] w).alloc _).alloc _).alloc _).alloc _ |>.drew⟩ <;>
    (rw [e]; simp only [Array.getElem?_push, Array.size_push])
  · rw [if_neg (by omega), if_neg (by omega), if_neg (by omega), if_pos trivial]
  · rw [if_neg (by omega), if_neg (by omega), if_pos trivial]
  · rw [if_neg (by omega), if_pos trivial]
  · rw [if_pos trivial]

/-- what the walk needs behind the literal of 'verdict' -/
structure VLit (m bv bo ba : Nat) (w wx : World) : Prop where
  hv : wx.heap[bv]? = some (.cells #[.slice (some ⟨bo, 0, none⟩) m m, .slice (some ⟨ba, 0, none⟩) m m] 36 (0, 0))
  ho : wx.heap[bo]? = some (.cells (opZ m) 30 (0, 0))
  ha : wx.heap[ba]? = some (.cells (i64Z m) 3 (0, 0))
  h0 : wx.heap[w.heap.size]? = some (.cells #[.slice none 0 0, .slice none 0 0] 36 (0, 0))
  lv : w.heap.size < bv
  lo : w.heap.size < bo
  la : w.heap.size < ba
  vo : bv ≠ bo
  va : bv ≠ ba
  oa : bo ≠ ba
  only : Only [] w wx

/-- The cells of a slice of operations: kinds, transactions, items. -/
def opCells (kd tx : Nat → Int) (nm : Nat → ByteArray) : Nat → Value := fun j => if j % 3 = 0 then .int .u8 (kd (j / 3)) else if j % 3 = 1 then .int .i64 (tx (j / 3)) else .string (nm (j / 3))

/-- the verdict's rows behind k rounds -/
structure VTo (m k bo ba : Nat) (p : Nat → Nat) (kd tx : Nat → Int) (nm : Nat → ByteArray) (wc wr : World) : Prop where
  o : ∀ j, j < 3 * k → wr.cell? ⟨bo, j, none⟩ = some (opCells (fun j => kd (p j)) (fun j => tx (p j)) (fun j => nm (p j)) j)
  oa : ∀ j, j < 3 * m → ∃ v, wr.cell? ⟨bo, j, none⟩ = some v
  of : ∀ j, wr.frozen? ⟨bo, j, none⟩ = false
  a : ∀ j, j < k → wr.cell? ⟨ba, j, none⟩ = some (.int .i64 (p j))
  aa : ∀ j, j < m → ∃ v, wr.cell? ⟨ba, j, none⟩ = some v
  af : ∀ j, wr.frozen? ⟨ba, j, none⟩ = false
  only : Only [bo, ba] wc wr

theorem size_opZ (m : Nat) : (opZ m).size = m * 3 := size_madeCells _ _
theorem size_i64Z (m : Nat) : (i64Z m).size = m := size_madeCells _ _
theorem size_i32Z (m : Nat) : (i32Z m).size = m := size_madeCells _ _

theorem cell_of_heap {w : World} {b j : Nat} {C : Array Value} {t : TypeId} {fr : Nat × Nat} (h : w.heap[b]? = some (.cells C t fr)) : w.cell? ⟨b, j, none⟩ = C[j]? := by simp [World.cell?, h]
theorem frozen_of_heap {w : World} {b j : Nat} {C : Array Value} {t : TypeId} (h : w.heap[b]? = some (.cells C t (0, 0))) : w.frozen? ⟨b, j, none⟩ = false := by simp [World.frozen?, h]

theorem VTo.start {m bv bo ba : Nat} {p : Nat → Nat} {kd tx : Nat → Int} {nm : Nat → ByteArray} {w wc : World} (h : VLit m bv bo ba w wc) : VTo m 0 bo ba p kd tx nm wc wc :=
  ⟨fun j hj => absurd hj (by omega), fun j hj => ⟨_, by rw [cell_of_heap h.ho]; exact Array.getElem?_eq_getElem (by rw [size_opZ]; omega)⟩, fun j => frozen_of_heap h.ho,
    fun j hj => absurd hj (by omega), fun j hj => ⟨_, by rw [cell_of_heap h.ha]; exact Array.getElem?_eq_getElem (by rw [size_i64Z]; omega)⟩, fun j => frozen_of_heap h.ha, Only.refl _ _⟩

theorem VTo.step {m k bo ba : Nat} {p : Nat → Nat} {kd tx : Nat → Int} {nm : Nat → ByteArray} {wc wr : World} (h : VTo m k bo ba p kd tx nm wc wr) (hk : k < m) (hne : bo ≠ ba) :
    VTo m (k + 1) bo ba p kd tx nm wc ((((wr.setCell ⟨bo, k * 3, none⟩ (.int .u8 (kd (p k)))).setCell ⟨bo, k * 3 + 1, none⟩ (.int .i64 (tx (p k)))).setCell ⟨bo, k * 3 + 2, none⟩ (.string (nm (p k)))).setCell ⟨ba, k, none⟩ (.int .i64 (p k))).drew := by
  have hO : Row wr bo (3 * m) (fun j => (wr.cell? ⟨bo, j, none⟩).getD undef) := ⟨fun j hj => by obtain ⟨v, hv⟩ := h.oa j hj; rw [hv]; rfl, h.of⟩
  have hA : Row wr ba m (fun j => (wr.cell? ⟨ba, j, none⟩).getD undef) := ⟨fun j hj => by obtain ⟨v, hv⟩ := h.aa j hj; rw [hv]; rfl, h.af⟩
  have hO' := ((((hO.set (k * 3) (by omega) (.int .u8 (kd (p k)))).set (k * 3 + 1) (by omega) (.int .i64 (tx (p k)))).set (k * 3 + 2) (by omega) (.string (nm (p k)))).other (p := ⟨ba, k, none⟩) (fun e => hne e.symm) (.int .i64 (p k))).drew
  have hA' := ((((hA.other (p := ⟨bo, k * 3, none⟩) hne (.int .u8 (kd (p k)))).other (p := ⟨bo, k * 3 + 1, none⟩) hne (.int .i64 (tx (p k)))).other (p := ⟨bo, k * 3 + 2, none⟩) hne (.string (nm (p k)))).set k hk (.int .i64 (p k))).drew
  refine ⟨fun j hj => ?_, fun j hj => ⟨_, hO'.cell j hj⟩, hO'.frozen, fun j hj => ?_, fun j hj => ⟨_, hA'.cell j hj⟩, hA'.frozen, ?_⟩
  · rw [hO'.cell j (by omega)]
    by_cases e2 : j = k * 3 + 2
    · rw [if_pos e2, e2, opCells, if_neg (by omega), if_neg (by omega), show (k * 3 + 2) / 3 = k by omega]
    · rw [if_neg e2]
      by_cases e1 : j = k * 3 + 1
      · rw [if_pos e1, e1, opCells, if_neg (by omega), if_pos (by omega), show (k * 3 + 1) / 3 = k by omega]
      · rw [if_neg e1]
        by_cases e0 : j = k * 3
        · rw [if_pos e0, e0, opCells, if_pos (by omega), show k * 3 / 3 = k by omega]
        · rw [if_neg e0, h.o j (by omega)]; rfl
  · rw [hA'.cell j (by omega)]
    by_cases e : j = k
    · rw [if_pos e, e]
    · rw [if_neg e, h.a j (by omega)]; rfl
  · exact ((((h.only.setCell (p := ⟨bo, k * 3, none⟩) (by simp) _).setCell (p := ⟨bo, k * 3 + 1, none⟩) (by simp) _).setCell (p := ⟨bo, k * 3 + 2, none⟩) (by simp) _).setCell (p := ⟨ba, k, none⟩) (by simp) _).drew

set_option maxHeartbeats 1000000 in
theorem verdict_any (bC bO bA n m : Nat) (p : Nat → Nat) (kd tx : Nat → Int) (nm : Nat → ByteArray) (w : World) (hn : n ≤ 1024) (hm : m ≤ 2) (hp : ∀ j, j < m → p j < n)
    (c0 : w.cell? ⟨bC, 0, none⟩ = some (.slice (some ⟨bO, 0, none⟩) n n)) (hO : Row w bO (3 * n) (opCells kd tx nm)) (hA : ∀ j, j < m → w.cell? ⟨bA, j, none⟩ = some (.int .i32 (p j))) :
    Calls Yba.prog 15 #[.pointer (some ⟨bC, 0, none⟩), .slice (some ⟨bA, 0, none⟩) m m] w fun e w' => ∃ bo ba, e = .returned (.agg #[.slice (some ⟨bo, 0, none⟩) m m, .slice (some ⟨ba, 0, none⟩) m m]) ∧
      w.heap.size ≤ bo ∧ w.heap.size ≤ ba ∧ bo ≠ ba ∧ bo < w'.heap.size ∧ ba < w'.heap.size ∧ Row w' bo (3 * m) (opCells (fun j => kd (p j)) (fun j => tx (p j)) (fun j => nm (p j))) ∧ Row w' ba m (fun j => .int .i64 (p j)) ∧ Only [] w w' := by
  have z36 := zero36
  have k23 := fun W => mk23 m W (by omega)
  have k34 := fun W => mk34 m W (by omega)
  have HO : Hid (Row w bO (3 * n) (opCells kd tx nm)) := hO
  have HA : Hid (∀ j, j < m → w.cell? ⟨bA, j, none⟩ = some (.int .i32 (p j))) := hA
  have HP : Hid (∀ j, j < m → p j < n) := hp
  clear hO hA hp
  go_enter Yba.func15, Yba.ntmps15
  go_wp2
  go_cut [5] (fun s wx => ∃ bv bo ba, s = .pointer (some ⟨bv, 0, none⟩) ∧ VLit m bv bo ba w wx)
  case first =>
    go_region
    all_goals go_wp2
    all_goals go_meet
    all_goals
      have F := four w
      first
        | exact ⟨_, _, _, rfl, (F _ _ _ _).2.1, (F _ _ _ _).2.2.1, (F _ _ _ _).2.2.2.1, (F _ _ _ _).1, by omega, by omega, by omega, by omega, by omega, by omega, (F _ _ _ _).2.2.2.2⟩
        | exact ⟨_, _, _, rfl, (F _ _ _ _).2.1, (F _ _ _ _).2.2.2.1, (F _ _ _ _).2.2.1, (F _ _ _ _).1, by omega, by omega, by omega, by omega, by omega, by omega, (F _ _ _ _).2.2.2.2⟩
        | exact ⟨_, _, _, rfl, (F _ _ _ _).2.2.1, (F _ _ _ _).2.1, (F _ _ _ _).2.2.2.1, (F _ _ _ _).1, by omega, by omega, by omega, by omega, by omega, by omega, (F _ _ _ _).2.2.2.2⟩
        | exact ⟨_, _, _, rfl, (F _ _ _ _).2.2.1, (F _ _ _ _).2.2.2.1, (F _ _ _ _).2.1, (F _ _ _ _).1, by omega, by omega, by omega, by omega, by omega, by omega, (F _ _ _ _).2.2.2.2⟩
        | exact ⟨_, _, _, rfl, (F _ _ _ _).2.2.2.1, (F _ _ _ _).2.1, (F _ _ _ _).2.2.1, (F _ _ _ _).1, by omega, by omega, by omega, by omega, by omega, by omega, (F _ _ _ _).2.2.2.2⟩
        | exact ⟨_, _, _, rfl, (F _ _ _ _).2.2.2.1, (F _ _ _ _).2.2.1, (F _ _ _ _).2.1, (F _ _ _ _).1, by omega, by omega, by omega, by omega, by omega, by omega, (F _ _ _ _).2.2.2.2⟩
  case rest =>
    obtain ⟨bv, bo, ba, rfl, hv0⟩ := hcut
    have hV : Hid (VLit m bv bo ba w wc) := hv0
    clear hv0
    go_wp2
    go_loopw [17] (fun i wr => ∃ k : Nat, k ≤ m ∧ i = .int .i64 k ∧ VTo m k bo ba p kd tx nm wc wr) (fun i _ => m - (intOf i).toNat)
    case atStart => exact ⟨0, Nat.zero_le _, rfl, VTo.start hV.out⟩
    case round =>
      obtain ⟨k, hk, rfl, ht0⟩ := hrel
      have hT : Hid (VTo m k bo ba p kd tx nm wc wr) := ht0
      clear ht0
      have hbA : ∀ b, b < w.heap.size → b ∉ [bo, ba] := fun b hb hm => by
        have := hV.out.lo; have := hV.out.la
        simp at hm; omega
      have HbA : Hid (∀ b, b < w.heap.size → b ∉ [bo, ba]) := hbA
      clear hbA
      have old : Hid (∀ b j, b < w.heap.size → wr.cell? ⟨b, j, none⟩ = w.cell? ⟨b, j, none⟩) := by
        intro b j hb
        exact (hT.out.only.cell (p := ⟨b, j, none⟩) (Nat.lt_of_lt_of_le hb hV.out.only.size) (HbA.out b hb)).trans (hV.out.only.cell (p := ⟨b, j, none⟩) hb (by simp))
      have hbv : bv < wc.heap.size := (Array.getElem?_eq_some_iff.1 hV.out.hv).1
      have v0 : wr.cell? ⟨bv, 0, none⟩ = some (.slice (some ⟨bo, 0, none⟩) m m) := by
        rw [hT.out.only.cell (p := ⟨bv, 0, none⟩) hbv (by have := hV.out.vo; have := hV.out.va; simp; omega), cell_of_heap hV.out.hv]; rfl
      have v1 : wr.cell? ⟨bv, 1, none⟩ = some (.slice (some ⟨ba, 0, none⟩) m m) := by
        rw [hT.out.only.cell (p := ⟨bv, 1, none⟩) hbv (by have := hV.out.vo; have := hV.out.va; simp; omega), cell_of_heap hV.out.hv]; rfl
      by_cases hlt : k < m
      · have hc0 : wr.cell? ⟨bC, 0, none⟩ = some (.slice (some ⟨bO, 0, none⟩) n n) := by
          rw [old.out _ _ (World.block_lt_of_cell? _ _ c0)]; exact c0
        have hcA : wr.cell? ⟨bA, k, none⟩ = some (.int .i32 (p k)) := by
          rw [old.out _ _ (World.block_lt_of_cell? _ _ (HA.out k hlt))]; exact HA.out k hlt
        have hpk := HP.out k hlt
        have hbO : bO < w.heap.size := HO.out.lt (by omega)
        have s0 : wr.cell? ⟨bO, p k * 3, none⟩ = some (.int .u8 (kd (p k))) := by
          rw [old.out _ _ hbO, HO.out.cell _ (by omega)]; simp [opCells]
        have s1 : wr.cell? ⟨bO, p k * 3 + 1, none⟩ = some (.int .i64 (tx (p k))) := by
          rw [old.out _ _ hbO, HO.out.cell _ (by omega)]; rw [opCells, if_neg (by omega), if_pos (by omega), show (p k * 3 + 1) / 3 = p k by omega]
        have s2 : wr.cell? ⟨bO, p k * 3 + 2, none⟩ = some (.string (nm (p k))) := by
          rw [old.out _ _ hbO, HO.out.cell _ (by omega), opCells, if_neg (by omega), if_neg (by omega), show (p k * 3 + 2) / 3 = p k by omega]
        obtain ⟨x0, d0⟩ := hT.out.oa (k * 3) (by omega)
        obtain ⟨x1, d1⟩ := hT.out.oa (k * 3 + 1) (by omega)
        obtain ⟨x2, d2⟩ := hT.out.oa (k * 3 + 2) (by omega)
        obtain ⟨x3, d3⟩ := hT.out.aa k hlt
        have f0 := hT.out.of (k * 3)
        have f1 := hT.out.of (k * 3 + 1)
        have f2 := hT.out.of (k * 3 + 2)
        have f3 := hT.out.af k
        have hoa := hV.out.oa
        have hbC : bC < w.heap.size := World.block_lt_of_cell? _ _ c0
        have n1 : bo ≠ bv := fun h => hV.out.vo h.symm
        have n2 : ba ≠ bv := fun h => hV.out.va h.symm
        have n3 : ba ≠ bo := fun h => hV.out.oa h.symm
        have n4 : bo ≠ bC := by have := hV.out.lo; omega
        have n5 : ba ≠ bC := by have := hV.out.la; omega
        have n6 : bo ≠ bO := by have := hV.out.lo; omega
        have n7 : ba ≠ bO := by have := hV.out.la; omega
        clear hbC hbO hbv
        generalize hpq : p k = q at *
        generalize hkd : kd q = kq at *
        generalize htx : tx q = tq at *
        generalize hnm : nm q = nq at *
        have PQ : Hid (p k = q ∧ kd q = kq ∧ tx q = tq ∧ nm q = nq) := ⟨hpq, hkd, htx, hnm⟩
        clear hpq hkd htx hnm c0
        have hi1 : (k : Int) < (m : Int) := by omega
        have hi2 : (q : Int) < (n : Int) := by omega
        go_wp2
        go_region
        go_wp2
        go_roundw
        case rel =>
          refine ⟨k + 1, by omega, by go_num, ?_⟩
          have := hT.out.step hlt hoa
          rw [PQ.out.1, PQ.out.2.1, PQ.out.2.2.1, PQ.out.2.2.2] at this
          exact this
        case measure => simp [intOf]; omega
      · obtain rfl : k = m := by omega
        have hN : w.heap.size ∉ [bo, ba] := fun hm => by
          have := hV.out.lo; have := hV.out.la
          simp at hm; omega
        have hNs : w.heap.size < wc.heap.size := (Array.getElem?_eq_some_iff.1 hV.out.h0).1
        have r0 : wr.cell? ⟨w.heap.size, 0, none⟩ = some (.slice none 0 0) := by
          rw [hT.out.only.cell (p := ⟨w.heap.size, 0, none⟩) hNs hN, cell_of_heap hV.out.h0]; rfl
        have r1 : wr.cell? ⟨w.heap.size, 1, none⟩ = some (.slice none 0 0) := by
          rw [hT.out.only.cell (p := ⟨w.heap.size, 1, none⟩) hNs hN, cell_of_heap hV.out.h0]; rfl
        have g0 : wr.frozen? ⟨w.heap.size, 0, none⟩ = false := by
          rw [hT.out.only.frozen (p := ⟨w.heap.size, 0, none⟩) hNs hN]; exact frozen_of_heap hV.out.h0
        have g1 : wr.frozen? ⟨w.heap.size, 1, none⟩ = false := by
          rw [hT.out.only.frozen (p := ⟨w.heap.size, 1, none⟩) hNs hN]; exact frozen_of_heap hV.out.h0
        have nv : w.heap.size ≠ bv := by have := hV.out.lv; omega
        clear hN hNs
        go_wp2
        refine bodyPost_ret (v := .agg #[.slice (some ⟨bo, 0, none⟩) k k, .slice (some ⟨ba, 0, none⟩) k k]) (by simp [results, Yba.results15, go_sem, *]) rfl ⟨bo, ba, rfl, ?_⟩
        have l1 := hV.out.lo
        have l2 := hV.out.la
        have q1 : bo < wr.heap.size := Nat.lt_of_lt_of_le (Array.getElem?_eq_some_iff.1 hV.out.ho).1 hT.out.only.size
        have q2 : ba < wr.heap.size := Nat.lt_of_lt_of_le (Array.getElem?_eq_some_iff.1 hV.out.ha).1 hT.out.only.size
        have hO2 : Row wr bo (3 * k) (opCells (fun j => kd (p j)) (fun j => tx (p j)) (fun j => nm (p j))) := ⟨hT.out.o, hT.out.of⟩
        have hA2 : Row wr ba k (fun j => .int .i64 (p j)) := ⟨hT.out.a, hT.out.af⟩
        have hOn : Only [] w wr := (hV.out.only.mono (T := [bo, ba]) (by simp)).trans hT.out.only |> fun h => ⟨h.os, h.tape, h.output, h.size, fun x hx _ => h.block x hx (HbA.out x hx)⟩
        refine ⟨by omega, by omega, hV.out.oa, ?_, ?_, ?_, ?_, ?_⟩
        · simpa using q1
        · simpa using q2
        · exact (hO2.other (p := ⟨w.heap.size, 0, none⟩) (by show w.heap.size ≠ bo; omega) _).other (p := ⟨w.heap.size, 1, none⟩) (by show w.heap.size ≠ bo; omega) _
        · exact (hA2.other (p := ⟨w.heap.size, 0, none⟩) (by show w.heap.size ≠ ba; omega) _).other (p := ⟨w.heap.size, 1, none⟩) (by show w.heap.size ≠ ba; omega) _
        · exact (hOn.setNew (p := ⟨w.heap.size, 0, none⟩) (Nat.le_refl _) _).setNew (p := ⟨w.heap.size, 1, none⟩) (Nat.le_refl _) _

end Go.Proofs.Ybulkhwa

import Derived.Test.YbulkhwaFin
namespace Go.Proofs.Ybulkhwa
open Go.RowKit Go.Pool

/-- The first k of n cells are laid. -/
structure QRow (w : World) (b n k : Nat) (g : Nat → Value) : Prop where
  cell : ∀ j, j < k → w.cell? ⟨b, j, none⟩ = some (g j)
  any : ∀ j, j < n → ∃ v, w.cell? ⟨b, j, none⟩ = some v
  frozen : ∀ j, w.frozen? ⟨b, j, none⟩ = false

theorem QRow.full {w : World} {b n : Nat} {g : Nat → Value} (h : QRow w b n n g) : Row w b n g := ⟨h.cell, h.frozen⟩
theorem QRow.zero {w : World} {b n : Nat} {C : Array Value} {t : TypeId} (g : Nat → Value) (h : w.heap[b]? = some (.cells C t (0, 0))) (hs : C.size = n) : QRow w b n 0 g :=
  ⟨fun j hj => absurd hj (by omega), fun j hj => ⟨_, by rw [cell_of_heap h]; exact Array.getElem?_eq_getElem (by omega)⟩, fun j => frozen_of_heap h⟩
theorem QRow.set {w : World} {b n k : Nat} {g : Nat → Value} (h : QRow w b n k g) (hk : k < n) (v : Value) (hv : v = g k) : QRow (w.setCell ⟨b, k, none⟩ v) b n (k + 1) g := by
  subst hv
  obtain ⟨v0, h0⟩ := h.any k hk
  refine ⟨fun j hj => ?_, fun j hj => ?_, fun j => by rw [World.frozen?_setCell]; exact h.frozen j⟩
  · by_cases e : j = k
    · subst e; exact World.cell?_setCell_same _ _ _ h0
    · rw [World.cell?_setCell_other _ _ _ _ (by intro hx; injection hx; omega)]
      exact h.cell j (by omega)
  · by_cases e : j = k
    · subst e; exact ⟨_, World.cell?_setCell_same _ _ _ h0⟩
    · rw [World.cell?_setCell_other _ _ _ _ (by intro hx; injection hx; omega)]
      exact h.any j hj
theorem QRow.other {w : World} {b n k : Nat} {g : Nat → Value} (h : QRow w b n k g) {p : Addr} (hp : p.block ≠ b) (v : Value) : QRow (w.setCell p v) b n k g := by
  refine ⟨fun j hj => ?_, fun j hj => ?_, fun j => by rw [World.frozen?_setCell]; exact h.frozen j⟩
  · rw [World.cell?_setCell_other _ _ _ _ (by intro hx; subst hx; exact hp rfl)]; exact h.cell j hj
  · rw [World.cell?_setCell_other _ _ _ _ (by intro hx; subst hx; exact hp rfl)]; exact h.any j hj

theorem mkI23 (m : Nat) (w : World) (h : m ≤ 1024) : (Instr.makeSlice 23 (.int .i32 m) (.int .i32 m)).run Yba.prog w = .ok (.slice (some ⟨w.heap.size, 0, none⟩) m m) (w.alloc (.cells (opZ m) 30)) := by
  obtain ⟨i, hi, hz0, hz1, hz2⟩ := info_parts info30
  have := run_make (P := Yba.prog) w 23 30 i _ Yba.underlying23 hi hz0 .i32 .i32 m m (by omega) (Int.le_refl _) (by rw [hz2]; omega) (by omega)
  simp only [Int.toNat_natCast, hz1] at this
  exact this
theorem mkI34 (m : Nat) (w : World) (h : m ≤ 1024) : (Instr.makeSlice 34 (.int .i32 m) (.int .i32 m)).run Yba.prog w = .ok (.slice (some ⟨w.heap.size, 0, none⟩) m m) (w.alloc (.cells (i64Z m) 3)) := by
  obtain ⟨i, hi, hz0, hz1, hz2⟩ := info_parts info3
  have := run_make (P := Yba.prog) w 34 3 i _ Yba.underlying34 hi hz0 .i32 .i32 m m (by omega) (Int.le_refl _) (by rw [hz2]; omega) (by omega)
  simp only [Int.toNat_natCast, hz1, Nat.mul_one] at this
  exact this
theorem mkI24 (m : Nat) (w : World) (h : m ≤ 1024) : (Instr.makeSlice 24 (.int .i32 m) (.int .i32 m)).run Yba.prog w = .ok (.slice (some ⟨w.heap.size, 0, none⟩) m m) (w.alloc (.cells (i32Z m) 21)) := by
  obtain ⟨i, hi, hz0, hz1, hz2⟩ := info_parts info21
  have := run_make (P := Yba.prog) w 24 21 i _ Yba.underlying24 hi hz0 .i32 .i32 m m (by omega) (Int.le_refl _) (by rw [hz2]; omega) (by omega)
  simp only [Int.toNat_natCast, hz1, Nat.mul_one] at this
  exact this
theorem mkI24s (m : Nat) (w : World) (h : m ≤ 1023) : (Instr.makeSlice 24 (.int .i32 ((m : Int) + 1)) (.int .i32 ((m : Int) + 1))).run Yba.prog w = .ok (.slice (some ⟨w.heap.size, 0, none⟩) (m + 1) (m + 1)) (w.alloc (.cells (i32Z (m + 1)) 21)) := by
  have := mkI24 (m + 1) w (by omega)
  exact_mod_cast this
theorem info68 : (Yba.prog.info? 68).map (fun i => (i.zero, i.size, i.bytes)) = some (some (.agg #[.int .i32 0, .int .i32 0, .int .i64 0, .int .i8 0]), 4, 24) := by kernel_rfl
theorem info24 : (Yba.prog.info? 24).map (fun i => (i.zero, i.size, i.bytes)) = some (some (.slice none 0 0), 1, 24) := by kernel_rfl
def ndZ (m : Nat) : Array Value := madeCells #[.int .i32 0, .int .i32 0, .int .i64 0, .int .i8 0] (m * 4)
theorem mkI65 (m : Nat) (w : World) (h : m ≤ 1024) : (Instr.makeSlice 65 (.int .i32 m) (.int .i32 m)).run Yba.prog w = .ok (.slice (some ⟨w.heap.size, 0, none⟩) m m) (w.alloc (.cells (ndZ m) 68)) := by
  obtain ⟨i, hi, hz0, hz1, hz2⟩ := info_parts info68
  have := run_make (P := Yba.prog) w 65 68 i _ Yba.underlying65 hi hz0 .i32 .i32 m m (by omega) (Int.le_refl _) (by rw [hz2]; omega) (by omega)
  simp only [Int.toNat_natCast, hz1] at this
  exact this

theorem mk62 (w : World) : (Instr.makeSlice 62 (.int .i64 1) (.int .i64 1)).run Yba.prog w = .ok (.slice (some ⟨w.heap.size, 0, none⟩) 1 1) (w.alloc (.cells #[.slice none 0 0] 24)) := by
  obtain ⟨i, hi, hz0, hz1, hz2⟩ := info_parts info24
  have := run_make (P := Yba.prog) w 62 24 i _ Yba.underlying62 hi hz0 .i64 .i64 ((1 : Nat) : Int) ((1 : Nat) : Int) (by omega) (Int.le_refl _) (by rw [hz2]; omega) (by omega)
  simp only [Int.toNat_natCast, hz1, Nat.mul_one] at this
  rw [show madeCells (Value.slice none 0 0).cells 1 = #[.slice none 0 0] from by simp [madeCells, Value.cells]; exact ⟨0, rfl, rfl⟩] at this
  exact this

/-- the rows of the first loop: 1 ops, 2 txns, 3 lockOf, 4 lockTxn, 5 lockItem, 6 opStart, 7 at -/
def len7 (N i : Nat) : Nat := if i = 1 then 3 * N else if i = 6 then N + 1 else N
def fill7 (k i : Nat) : Nat := if i = 1 then 3 * k else if i = 6 then k + 1 else k
def ops7 : Nat → Value := fun j => if j % 3 = 0 then .int .u8 114 else if j % 3 = 1 then .int .i64 (((j / 3 : Nat) : Int) * 7 + 1) else .string ⟨#[120]⟩
def g7 (i : Nat) : Nat → Value := if i = 1 then ops7 else if i = 2 then fun j => .int .i64 ((j : Int) * 7 + 1) else if i = 5 then fun _ => .int .i32 0 else fun j => .int .i32 j

structure T7 (N n0 : Nat) (w : World) (fr : Bool) (f : Nat → Nat) (wr : World) : Prop where
  row : ∀ i, 1 ≤ i → i ≤ 7 → QRow wr (n0 + i) (len7 N i) (f i) (g7 i)
  box : wr.cell? ⟨n0, 0, none⟩ = some (.bool fr)
  only : Only [] w wr
  size : wr.heap.size = n0 + 8

theorem T7.store {N n0 : Nat} {w : World} {fr : Bool} {f : Nat → Nat} {wr : World} (h : T7 N n0 w fr f wr) (h0 : n0 = w.heap.size) (i j : Nat) (h1 : 1 ≤ i) (h7 : i ≤ 7) (hj : j = f i) (hl : f i < len7 N i) (v : Value) (hv : v = g7 i (f i)) :
    T7 N n0 w fr (upd f i (f i + 1)) (wr.setCell ⟨n0 + i, j, none⟩ v) := by
  subst hj
  refine ⟨fun x x1 x7 => ?_, ?_, h.only.setNew (p := ⟨n0 + i, f i, none⟩) (by show w.heap.size ≤ n0 + i; omega) _, by rw [World.size_setCell]; exact h.size⟩
  · by_cases e : x = i
    · subst e; rw [upd_same]; exact (h.row x h1 h7).set hl v hv
    · rw [upd_other _ _ _ _ e]; exact (h.row x x1 x7).other (p := ⟨n0 + i, f i, none⟩) (by show n0 + i ≠ n0 + x; omega) _
  · rw [World.cell?_setCell_other _ _ _ _ (by intro hx; injection hx; omega)]; exact h.box

theorem T7.congr {N n0 : Nat} {w : World} {fr : Bool} {f f' : Nat → Nat} {wr : World} (h : T7 N n0 w fr f wr) (e : ∀ i, 1 ≤ i → i ≤ 7 → f i = f' i) : T7 N n0 w fr f' wr :=
  ⟨fun i h1 h7 => (e i h1 h7) ▸ h.row i h1 h7, h.box, h.only, h.size⟩

theorem ops7_at (k : Nat) : ops7 (3 * k) = .int .u8 114 ∧ ops7 (3 * k + 1) = .int .i64 ((k : Int) * 7 + 1) ∧ ops7 (3 * k + 1 + 1) = .string ⟨#[120]⟩ := by
  refine ⟨?_, ?_, ?_⟩
  · rw [ops7, if_pos (by first | trivial | omega)]
  · rw [ops7, if_neg (by omega), if_pos (by omega), show (3 * k + 1) / 3 = k by omega]
  · rw [ops7, if_neg (by omega), if_neg (by omega)]

theorem T7.step {N n0 : Nat} {w : World} {fr : Bool} {k : Nat} {wr : World} (h : T7 N n0 w fr (fill7 k) wr) (h0 : n0 = w.heap.size) (hk : k < N) :
    T7 N n0 w fr (fill7 (k + 1)) (((((((((wr.setCell ⟨n0 + 1, k * 3, none⟩ (.int .u8 114)).setCell ⟨n0 + 1, k * 3 + 1, none⟩ (.int .i64 ((k : Int) * 7 + 1))).setCell ⟨n0 + 1, k * 3 + 2, none⟩ (.string ⟨#[120]⟩)).setCell ⟨n0 + 2, k, none⟩ (.int .i64 ((k : Int) * 7 + 1))).setCell ⟨n0 + 3, k, none⟩ (.int .i32 k)).setCell ⟨n0 + 4, k, none⟩ (.int .i32 k)).setCell ⟨n0 + 5, k, none⟩ (.int .i32 0)).setCell ⟨n0 + 6, k + 1, none⟩ (.int .i32 ((k : Int) + 1))).setCell ⟨n0 + 7, k, none⟩ (.int .i32 k)) := by
  have e1 := ops7_at k
  have s1 := h.store h0 1 (k * 3) (by omega) (by omega) (by simp [fill7]; omega) (by simp [fill7, len7]; omega) (.int .u8 114) (by simp [fill7, g7]; exact e1.1.symm)
  have s2 := s1.store h0 1 (k * 3 + 1) (by omega) (by omega) (by simp [fill7, upd]; omega) (by simp [fill7, len7, upd]; omega) (.int .i64 ((k : Int) * 7 + 1)) (by simp [fill7, g7, upd]; exact e1.2.1.symm)
  have s3 := s2.store h0 1 (k * 3 + 2) (by omega) (by omega) (by simp [fill7, upd]; omega) (by simp [fill7, len7, upd]; omega) (.string ⟨#[120]⟩) (by simp [fill7, g7, upd]; exact e1.2.2.symm)
  have s4 := s3.store h0 2 k (by omega) (by omega) (by simp [fill7, upd]) (by simp [fill7, len7, upd]; omega) (.int .i64 ((k : Int) * 7 + 1)) (by simp [fill7, g7, upd])
  have s5 := s4.store h0 3 k (by omega) (by omega) (by simp [fill7, upd]) (by simp [fill7, len7, upd]; omega) (.int .i32 k) (by simp [fill7, g7, upd])
  have s6 := s5.store h0 4 k (by omega) (by omega) (by simp [fill7, upd]) (by simp [fill7, len7, upd]; omega) (.int .i32 k) (by simp [fill7, g7, upd])
  have s7 := s6.store h0 5 k (by omega) (by omega) (by simp [fill7, upd]) (by simp [fill7, len7, upd]; omega) (.int .i32 0) (by simp [g7])
  have s8 := s7.store h0 6 (k + 1) (by omega) (by omega) (by simp [fill7, upd]) (by simp [fill7, len7, upd]; omega) (.int .i32 ((k : Int) + 1)) (by simp [fill7, g7, upd])
  have s9 := s8.store h0 7 k (by omega) (by omega) (by simp [fill7, upd]) (by simp [fill7, len7, upd]; omega) (.int .i32 k) (by simp [fill7, g7, upd])
  refine s9.congr fun i h1 h7 => ?_
  have : i = 1 ∨ i = 2 ∨ i = 3 ∨ i = 4 ∨ i = 5 ∨ i = 6 ∨ i = 7 := by omega
  rcases this with rfl | rfl | rfl | rfl | rfl | rfl | rfl <;> simp [upd, fill7] <;> omega

theorem i32Z_get (m j : Nat) (h : j < m) : (i32Z m)[j]? = some (.int .i32 0) := by
  have hs : j < (i32Z m).size := by rw [size_i32Z]; exact h
  rw [Array.getElem?_eq_getElem hs]
  simp [i32Z, madeCells, Nat.mod_one]

theorem T7.start (N : Nat) (w : World) (fr : Bool) :
    T7 N w.heap.size w fr (fill7 0) ((((((((w.alloc (.cells #[.bool fr] 4)).alloc (.cells (opZ N) 30)).alloc (.cells (i64Z N) 3)).alloc (.cells (i32Z N) 21)).alloc (.cells (i32Z N) 21)).alloc (.cells (i32Z N) 21)).alloc (.cells (i32Z (N + 1)) 21)).alloc (.cells (i32Z N) 21)) := by
  have e : ((((((((w.alloc (.cells #[.bool fr] 4)).alloc (.cells (opZ N) 30)).alloc (.cells (i64Z N) 3)).alloc (.cells (i32Z N) 21)).alloc (.cells (i32Z N) 21)).alloc (.cells (i32Z N) 21)).alloc (.cells (i32Z (N + 1)) 21)).alloc (.cells (i32Z N) 21)).heap =
    (((((((w.heap.push (.cells #[.bool fr] 4)).push (.cells (opZ N) 30)).push (.cells (i64Z N) 3)).push (.cells (i32Z N) 21)).push (.cells (i32Z N) 21)).push (.cells (i32Z N) 21)).push (.cells (i32Z (N + 1)) 21)).push (.cells (i32Z N) 21) := rfl
  refine ⟨fun i h1 h7 => ?_, ?_, (((((((((Only.refl _ w).alloc _).alloc _).alloc _).alloc _).alloc _).alloc _).alloc _).alloc _), by simp⟩
  · have : i = 1 ∨ i = 2 ∨ i = 3 ∨ i = 4 ∨ i = 5 ∨ i = 6 ∨ i = 7 := by omega
    rcases this with rfl | rfl | rfl | rfl | rfl | rfl | rfl
    · refine QRow.zero _ (C := opZ N) (t := 30) ?_ (by rw [size_opZ]; simp [len7]; omega)
      rw [e]; simp only [Array.getElem?_push, Array.size_push]; rw [if_neg (by omega), if_neg (by omega), if_neg (by omega), if_neg (by omega), if_neg (by omega), if_neg (by omega), if_pos (by first | trivial | omega)]
    · refine QRow.zero _ (C := i64Z N) (t := 3) ?_ (by rw [size_i64Z]; simp [len7])
      rw [e]; simp only [Array.getElem?_push, Array.size_push]; rw [if_neg (by omega), if_neg (by omega), if_neg (by omega), if_neg (by omega), if_neg (by omega), if_pos (by first | trivial | omega)]
    · refine QRow.zero _ (C := i32Z N) (t := 21) ?_ (by rw [size_i32Z]; simp [len7])
      rw [e]; simp only [Array.getElem?_push, Array.size_push]; rw [if_neg (by omega), if_neg (by omega), if_neg (by omega), if_neg (by omega), if_pos (by first | trivial | omega)]
    · refine QRow.zero _ (C := i32Z N) (t := 21) ?_ (by rw [size_i32Z]; simp [len7])
      rw [e]; simp only [Array.getElem?_push, Array.size_push]; rw [if_neg (by omega), if_neg (by omega), if_neg (by omega), if_pos (by first | trivial | omega)]
    · refine QRow.zero _ (C := i32Z N) (t := 21) ?_ (by rw [size_i32Z]; simp [len7])
      rw [e]; simp only [Array.getElem?_push, Array.size_push]; rw [if_neg (by omega), if_neg (by omega), if_pos (by first | trivial | omega)]
    · have hh : ((((((((w.alloc (.cells #[.bool fr] 4)).alloc (.cells (opZ N) 30)).alloc (.cells (i64Z N) 3)).alloc (.cells (i32Z N) 21)).alloc (.cells (i32Z N) 21)).alloc (.cells (i32Z N) 21)).alloc (.cells (i32Z (N + 1)) 21)).alloc (.cells (i32Z N) 21)).heap[w.heap.size + 6]? = some (.cells (i32Z (N + 1)) 21 (0, 0)) := by
        rw [e]; simp only [Array.getElem?_push, Array.size_push]; rw [if_neg (by omega), if_pos (by first | trivial | omega)]
      have q := QRow.zero (g7 6) (n := N + 1) hh (by rw [size_i32Z])
      refine ⟨fun j hj => ?_, q.any, q.frozen⟩
      obtain rfl : j = 0 := by simp [fill7] at hj; exact hj
      rw [cell_of_heap hh, i32Z_get _ _ (by omega)]
      rfl
    · refine QRow.zero _ (C := i32Z N) (t := 21) ?_ (by rw [size_i32Z]; simp [len7])
      rw [e]; simp only [Array.getElem?_push, Array.size_push]; rw [if_pos (by first | trivial | omega)]
  · have hh : ((((((((w.alloc (.cells #[.bool fr] 4)).alloc (.cells (opZ N) 30)).alloc (.cells (i64Z N) 3)).alloc (.cells (i32Z N) 21)).alloc (.cells (i32Z N) 21)).alloc (.cells (i32Z N) 21)).alloc (.cells (i32Z (N + 1)) 21)).alloc (.cells (i32Z N) 21)).heap[w.heap.size]? = some (.cells #[.bool fr] 4 (0, 0)) := by
      rw [e]; simp only [Array.getElem?_push, Array.size_push]; rw [if_neg (by omega), if_neg (by omega), if_neg (by omega), if_neg (by omega), if_neg (by omega), if_neg (by omega), if_neg (by omega), if_pos (by first | trivial | omega)]
    rw [cell_of_heap hh]; rfl

/-- the rows behind the first loop, and the stamps -/
structure T8 (N n0 t sT : Nat) (w : World) (fr : Bool) (wx : World) : Prop where
  row : ∀ i, 1 ≤ i → i ≤ 7 → Row wx (n0 + i) (len7 N i) (g7 i)
  st : wx.cell? ⟨n0 + 8, t, none⟩ = some (.int .i32 sT)
  box : wx.cell? ⟨n0, 0, none⟩ = some (.bool fr)
  only : Only [] w wx
  size : n0 + 9 ≤ wx.heap.size

theorem T7.t8 {N n0 t sT : Nat} {w : World} {fr : Bool} {wr : World} (h : T7 N n0 w fr (fill7 N) wr) (h0 : n0 = w.heap.size) (ht : t < N) : T8 N n0 t sT w fr ((wr.alloc (.cells (i32Z N) 21)).setCell ⟨n0 + 8, t, none⟩ (.int .i32 sT)) ∧ (wr.alloc (.cells (i32Z N) 21)).cell? ⟨n0 + 8, t, none⟩ = some (.int .i32 0) ∧ (wr.alloc (.cells (i32Z N) 21)).frozen? ⟨n0 + 8, t, none⟩ = false := by
  have hs := h.size
  have c0 : (wr.alloc (.cells (i32Z N) 21)).cell? ⟨n0 + 8, t, none⟩ = some (.int .i32 0) := by
    rw [← hs, World.cell?_alloc_new]
    exact i32Z_get N t ht
  refine ⟨⟨fun i h1 h7 => ?_, ?_, ?_, (h.only.alloc _).setNew (p := ⟨n0 + 8, t, none⟩) (by show w.heap.size ≤ n0 + 8; omega) _, by rw [World.size_setCell]; simp; omega⟩, c0, ?_⟩
  · have e : fill7 N i = len7 N i := rfl
    have q := h.row i h1 h7
    rw [e] at q
    exact (q.full.alloc (by omega) _).other (p := ⟨n0 + 8, t, none⟩) (by show n0 + 8 ≠ n0 + i; omega) _
  · exact World.cell?_setCell_same _ _ _ c0
  · rw [World.cell?_setCell_other _ _ _ _ (by intro hx; injection hx; omega), World.cell?_alloc_lt _ _ _ (by show n0 < _; omega)]
    exact h.box
  · rw [← hs]; exact World.frozen?_alloc_new _ _ _ _

theorem T8.only' {N n0 t sT : Nat} {w : World} {fr : Bool} {wx wy : World} (h : T8 N n0 t sT w fr wx) (ho : Only [] wx wy) : T8 N n0 t sT w fr wy := by
  have hs := h.size
  exact ⟨fun i h1 h7 => (h.row i h1 h7).only ho (by omega) (by simp), (ho.cell (p := ⟨n0 + 8, t, none⟩) (by show n0 + 8 < _; omega) (by simp)).trans h.st, (ho.cell (p := ⟨n0, 0, none⟩) (by show n0 < _; omega) (by simp)).trans h.box, h.only.trans ho, Nat.le_trans hs ho.size⟩

/-- the holders' locks, of the drawn numbers -/
def lockOf (N : Nat) (LL : Nat → Nat) (j : Nat) : Int := if LL j % (N + 1) = N then -1 else ((LL j % (N + 1) : Nat) : Int)
theorem lockOf_b (N : Nat) (LL : Nat → Nat) (j : Nat) : -1 ≤ lockOf N LL j ∧ lockOf N LL j < N := by
  unfold lockOf
  have := Nat.mod_lt (LL j) (show 0 < N + 1 by omega)
  split <;> omega

def hcells (L : Nat → Int) (V : Nat → Nat) : Nat → List Value
  | 0 => []
  | k + 1 => hcells L V k ++ [.int .i32 (L k), .int .u32 (V k)]
def cntTo (L : Nat → Int) : Nat → Nat
  | 0 => 0
  | k + 1 => cntTo L k + if 0 ≤ L k then 1 else 0
theorem hcells_len (L : Nat → Int) (V : Nat → Nat) (k : Nat) : (hcells L V k).length = k * 2 := by
  induction k with
  | zero => rfl
  | succ k ih => simp [hcells, ih]; omega
theorem hcells_at (L : Nat → Int) (V : Nat → Nat) (k j : Nat) (h : j < k) : (hcells L V k)[j * 2]? = some (.int .i32 (L j)) ∧ (hcells L V k)[j * 2 + 1]? = some (.int .u32 (V j)) := by
  induction k with
  | zero => omega
  | succ k ih =>
    simp only [hcells]
    by_cases e : j = k
    · subst e
      rw [List.getElem?_append_right (by rw [hcells_len]; omega), List.getElem?_append_right (by rw [hcells_len]; omega), hcells_len]
      simp [show j * 2 + 1 - j * 2 = 1 by omega]
    · rw [List.getElem?_append_left (by rw [hcells_len]; omega), List.getElem?_append_left (by rw [hcells_len]; omega)]
      exact ih (by omega)
theorem cntTo_le (L : Nat → Int) (k : Nat) : cntTo L k ≤ k := by
  induction k with
  | zero => simp [cntTo]
  | succ k ih => simp only [cntTo]; split <;> omega

theorem info58 : (Yba.prog.info? 58).map (fun i => (i.zero, i.size, i.bytes)) = some (some (.agg #[.int .i32 0, .int .u32 0]), 2, 8) := by kernel_rfl

/-- what came in -/
structure HsAt (b off n : Nat) (LL VV : Nat → Nat) (w : World) : Prop where
  l : ∀ i, i < n → w.cell? ⟨b, off + i * 2, none⟩ = some (.int .u8 (LL i))
  v : ∀ i, i < n → w.cell? ⟨b, off + i * 2 + 1, none⟩ = some (.int .u8 (VV i))
  l8 : ∀ i, LL i < 256
  v8 : ∀ i, VV i < 256
  lt : 0 < n → b < w.heap.size

end Go.Proofs.Ybulkhwa

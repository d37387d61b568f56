import Derived.Test.YbulkhwaPlain
import Derived.Test.YbulkhwaAv
import Derived.Test.YbulkhwaPool
import Derived.Deep.CutBlock
namespace Go.Proofs.Ybulkhwa
open Go.RowKit

/-- The first k of n cells are laid. -/
structure PRow (w : World) (b n k : Nat) (g : Nat → Value) : Prop where
  cell : ∀ j, j < k → w.cell? ⟨b, j, none⟩ = some (g j)
  any : ∀ j, j < n → ∃ v, w.cell? ⟨b, j, none⟩ = some v
  frozen : ∀ j, w.frozen? ⟨b, j, none⟩ = false

theorem PRow.full {w : World} {b n : Nat} {g : Nat → Value} (h : PRow w b n n g) : Row w b n g := ⟨h.cell, h.frozen⟩
theorem PRow.zero {w : World} {b n : Nat} {C : Array Value} {t : TypeId} (g : Nat → Value) (h : w.heap[b]? = some (.cells C t (0, 0))) (hs : C.size = n) : PRow w b n 0 g :=
  ⟨fun j hj => absurd hj (by omega), fun j hj => ⟨_, by rw [cell_of_heap h]; exact Array.getElem?_eq_getElem (by omega)⟩, fun j => frozen_of_heap h⟩
theorem PRow.set {w : World} {b n k : Nat} {g : Nat → Value} (h : PRow w b n k g) (hk : k < n) (v : Value) (hv : v = g k) : PRow (w.setCell ⟨b, k, none⟩ v) b n (k + 1) g := by
  subst hv
  obtain ⟨v0, h0⟩ := h.any k hk
  refine ⟨fun j hj => ?_, fun j hj => ?_, fun j => by rw [World.frozen?_setCell]; exact h.frozen j⟩
  · by_cases e : j = k
    · subst e; exact World.cell?_setCell_same _ _ _ h0
    · rw [World.cell?_setCell_other _ _ _ _ (by intro hx; injection hx; omega)]
      exact h.cell j (by omega)
  · by_cases e : j = k
    · subst e; exact ⟨_, World.cell?_setCell_same _ _ _ h0⟩
    · rw [World.cell?_setCell_other _ _ _ _ (by intro hx; injection hx; omega)]
      exact h.any j hj
theorem PRow.other {w : World} {b n k : Nat} {g : Nat → Value} (h : PRow w b n k g) {p : Addr} (hp : p.block ≠ b) (v : Value) : PRow (w.setCell p v) b n k g := by
  refine ⟨fun j hj => ?_, fun j hj => ?_, fun j => by rw [World.frozen?_setCell]; exact h.frozen j⟩
  · rw [World.cell?_setCell_other _ _ _ _ (by intro hx; subst hx; exact hp rfl)]; exact h.cell j hj
  · rw [World.cell?_setCell_other _ _ _ _ (by intro hx; subst hx; exact hp rfl)]; exact h.any j hj
theorem PRow.alloc {w : World} {b n k : Nat} {g : Nat → Value} (h : PRow w b n k g) (hb : b < w.heap.size) (o : Obj) : PRow (w.alloc o) b n k g :=
  ⟨fun j hj => by rw [World.cell?_alloc_lt _ _ _ hb]; exact h.cell j hj, fun j hj => by rw [World.cell?_alloc_lt _ _ _ hb]; exact h.any j hj, fun j => by rw [World.frozen?_alloc_old _ _ _ (by show b ≠ w.heap.size; omega)]; exact h.frozen j⟩

/-- The schedule that the law makes of the drawn steps. -/
def nmOf (q : Nat) : ByteArray := (⟨#[120, 121, 122]⟩ : ByteArray).extract q (q + 1)
def mkS (KK TT II : Nat → Nat) : Sch :=
  { kd := fun i => (kindF (KK i) : Int), tx := fun i => ((TT i % 3 : Nat) : Int), nm := fun i => if kindF (KK i) = 99 then ⟨#[]⟩ else nmOf (II i % 3),
    tn := fun i => ((TT i % 3 : Nat) : Int), us := fun i => if kindF (KK i) = 99 then -1 else ((TT i % 3 * 3 + II i % 3 : Nat) : Int) }

/-- the steps as they came in -/
structure StepsAt (b off n : Nat) (KK TT II : Nat → Nat) (w : World) : Prop where
  k : ∀ i, i < n → w.cell? ⟨b, off + i * 3, none⟩ = some (.int .u8 (KK i))
  t : ∀ i, i < n → w.cell? ⟨b, off + i * 3 + 1, none⟩ = some (.int .u8 (TT i))
  i : ∀ i, i < n → w.cell? ⟨b, off + i * 3 + 2, none⟩ = some (.int .u8 (II i))
  k8 : ∀ i, KK i < 256
  t8 : ∀ i, TT i < 256
  i8 : ∀ i, II i < 256
  lt : 0 < n → b < w.heap.size

/-- behind k rounds of the first loop -/
structure Lp1 (n k N : Nat) (S : Sch) (w wr : World) : Prop where
  o : PRow wr N (3 * n) (3 * k) (opCells S.kd S.tx S.nm)
  t : PRow wr (N + 1) n k (i32s S.tn)
  u : PRow wr (N + 1 + 1) n k (i32s S.us)
  only : Only [] w wr
  size : N + 3 ≤ wr.heap.size

theorem opCells_at (S : Sch) (k : Nat) : opCells S.kd S.tx S.nm (3 * k) = .int .u8 (S.kd k) ∧ opCells S.kd S.tx S.nm (3 * k + 1) = .int .i64 (S.tx k) ∧ opCells S.kd S.tx S.nm (3 * k + 1 + 1) = .string (S.nm k) := by
  refine ⟨?_, ?_, ?_⟩
  · rw [opCells, if_pos (by omega), show 3 * k / 3 = k by omega]
  · rw [opCells, if_neg (by omega), if_pos (by omega), show (3 * k + 1) / 3 = k by omega]
  · rw [opCells, if_neg (by omega), if_neg (by omega), show (3 * k + 1 + 1) / 3 = k by omega]

theorem Lp1.start (n : Nat) (S : Sch) (w : World) : Lp1 n 0 w.heap.size S w (((w.alloc (.cells (opZ n) 30)).alloc (.cells (i32Z n) 21)).alloc (.cells (i32Z n) 21)) := by
  have e : (((w.alloc (.cells (opZ n) 30)).alloc (.cells (i32Z n) 21)).alloc (.cells (i32Z n) 21)).heap = ((w.heap.push (.cells (opZ n) 30)).push (.cells (i32Z n) 21)).push (.cells (i32Z n) 21) := rfl
  refine ⟨PRow.zero _ (C := opZ n) (t := 30) ?_ (by rw [size_opZ]; omega), PRow.zero _ (C := i32Z n) (t := 21) ?_ (size_i32Z n), PRow.zero _ (C := i32Z n) (t := 21) ?_ (size_i32Z n), (((Only.refl _ _).alloc _).alloc _).alloc _, by simp⟩
  · rw [e]; simp only [Array.getElem?_push, Array.size_push]; rw [if_neg (by omega), if_neg (by omega), if_pos trivial]
  · rw [e]; simp only [Array.getElem?_push, Array.size_push]; rw [if_neg (by omega), if_pos trivial]
  · rw [e]; simp only [Array.getElem?_push, Array.size_push]; rw [if_pos trivial]

theorem Lp1.step {n k N : Nat} {S : Sch} {w wr : World} (h : Lp1 n k N S w wr) (hk : k < n) (hN : w.heap.size ≤ N) (kd tx tn us : Int) (nm : ByteArray) (e1 : kd = S.kd k) (e2 : tx = S.tx k) (e3 : nm = S.nm k) (e4 : tn = S.tn k) (e5 : us = S.us k) :
    Lp1 n (k + 1) N S w (((((wr.setCell ⟨N + 1, k, none⟩ (.int .i32 tn)).setCell ⟨N, k * 3, none⟩ (.int .u8 kd)).setCell ⟨N, k * 3 + 1, none⟩ (.int .i64 tx)).setCell ⟨N, k * 3 + 2, none⟩ (.string nm)).setCell ⟨N + 1 + 1, k, none⟩ (.int .i32 us)) := by
  subst e1 e2 e3 e4 e5
  have hs := h.size
  have hO := opCells_at S k
  have a0 : k * 3 = 3 * k := by omega
  rw [a0]
  refine ⟨?_, ?_, ?_, ?_, ?_⟩
  · have o1 := (h.o.other (p := ⟨N + 1, k, none⟩) (by show N + 1 ≠ N; omega) (.int .i32 (S.tn k))).set (by omega) (.int .u8 (S.kd k)) hO.1.symm
    have o2 := (o1.set (by omega) (.int .i64 (S.tx k)) hO.2.1.symm).set (by omega) (.string (S.nm k)) hO.2.2.symm
    have o3 := o2.other (p := ⟨N + 1 + 1, k, none⟩) (by show N + 1 + 1 ≠ N; omega) (.int .i32 (S.us k))
    rw [show 3 * (k + 1) = 3 * k + 1 + 1 + 1 by omega]
    exact o3
  · exact ((((h.t.set hk _ rfl).other (p := ⟨N, 3 * k, none⟩) (by show N ≠ N + 1; omega) _).other (p := ⟨N, 3 * k + 1, none⟩) (by show N ≠ N + 1; omega) _).other (p := ⟨N, 3 * k + 2, none⟩) (by show N ≠ N + 1; omega) _).other (p := ⟨N + 1 + 1, k, none⟩) (by show N + 1 + 1 ≠ N + 1; omega) _
  · exact ((((h.u.other (p := ⟨N + 1, k, none⟩) (by show N + 1 ≠ N + 1 + 1; omega) _).other (p := ⟨N, 3 * k, none⟩) (by show N ≠ N + 1 + 1; omega) _).other (p := ⟨N, 3 * k + 1, none⟩) (by show N ≠ N + 1 + 1; omega) _).other (p := ⟨N, 3 * k + 2, none⟩) (by show N ≠ N + 1 + 1; omega) _).set hk _ rfl
  · exact ((((h.only.setNew (p := ⟨N + 1, k, none⟩) (by show w.heap.size ≤ N + 1; omega) _).setNew (p := ⟨N, 3 * k, none⟩) hN _).setNew (p := ⟨N, 3 * k + 1, none⟩) hN _).setNew (p := ⟨N, 3 * k + 2, none⟩) hN _).setNew (p := ⟨N + 1 + 1, k, none⟩) (by show w.heap.size ≤ N + 1 + 1; omega) _
  · simp only [World.size_setCell]; omega

theorem Lp1.alloc {n k N : Nat} {S : Sch} {w wr : World} (h : Lp1 n k N S w wr) (o : Obj) : Lp1 n k N S w (wr.alloc o) :=
  have hs := h.size
  ⟨h.o.alloc (by omega) o, h.t.alloc (by omega) o, h.u.alloc (by omega) o, h.only.alloc o, by simp; omega⟩

end Go.Proofs.Ybulkhwa

import Derived.Test.YbulkhwoDoorNine
import Derived.Lib.Walk
import Derived.Lib.SliceRun
import Derived.Lib.AppendZerosOnto
namespace Go.Proofs.YbulkhwoDoor
open Go.RowKit Go.Lib

theorem info5 : (Ybad.prog.info? 5).map (fun i => (i.zero, i.size, i.bytes)) = some (some (.int .u8 0), 1, 1) := by kernel_rfl

/-- What slices.Grow leaves where there was no room: a new row. -/
structure Grew (B l G : Nat) (cs : List Value) (w w' : World) : Prop where
  room : l + 19 ≤ G
  max : G ≤ 9223372036854775807
  cells : ∀ (j : Nat) (v : Value), cs[j]? = some v → w'.cell? ⟨B, j, none⟩ = some v
  any : ∀ j, j < l + 19 → ∃ v, w'.cell? ⟨B, j, none⟩ = some v
  frozen : ∀ j, w'.frozen? ⟨B, j, none⟩ = false
  below : Below B w w'

set_option maxHeartbeats 1000000 in
theorem grow_any (base : Option Addr) (l : Nat) (cs : List Value) (w : World) (hl : l ≤ 1024) (hcl : cs.length = l) (hnil : base = none → l = 0)
    (hcs : ∀ a, base = some a → ∀ j v, cs[j]? = some v → w.cell? (a.add j) = some v) :
    Calls Ybad.prog 7 #[.slice base l l, .int .i64 19] w fun e w' => ∃ G, e = .returned (.slice (some ⟨w.heap.size, 0, none⟩) l G) ∧ Grew w.heap.size l G cs w w' := by
  obtain ⟨i0, hi0, hz0, hs0, hb0⟩ := info_parts info5
  have hold : (Builtin.firstCells i0.size l (.slice base l l)).run Ybad.prog w.drew = .ok cs.toArray w.drew := by
    cases base with
    | none =>
      have h0 := hnil rfl
      subst h0
      have hc0 : cs = [] := List.length_eq_zero_iff.1 hcl
      rw [hc0]
      exact run_firstCells_none w.drew i0.size 0 0 0
    | some a => exact run_firstCells_some w.drew i0.size l a l l cs (by rw [hs0, hcl]; omega) (fun j v hj => hcs a rfl j v hj)
  have hrz : ∀ ty, (Builtin.append_ #[22, 3] ty #[.slice base l l, .int .i64 ((19 : Nat) : Int)]).run Ybad.prog w =
      .ok (.slice (some ⟨w.heap.size, 0, none⟩) (l + 19) (grownCap w (l + 19) l 5)) (w.drew.alloc (.cells (cs.toArray ++ Builtin.zeroCells (Value.int .u8 0).cells 19 ++ Builtin.zeroCells (Value.int .u8 0).cells (grownCap w (l + 19) l 5 - (l + 19))) 5)) := fun ty =>
    Lib.run_append_grow_zeros w 22 3 ty 5 i0 (.int .u8 0) .i64 .i64 Ybad.underlying22 Ybad.underlying3 hi0 hz0 base l l cs hold 19 (by omega) (by omega) (by omega) (by omega)
      (by rw [hb0]; omega) (by rw [hb0]; exact growslice_fits (by omega) (by omega))
  have hGn : l + 19 ≤ grownCap w (l + 19) l 5 := grownCap_ge w _ _ _
  have hG63 : grownCap w (l + 19) l 5 ≤ 9223372036854775807 := by
    have := grownCap_le_maxLen w (l + 19) l 5 (by unfold maxLen; omega)
    unfold maxLen at this
    omega
  obtain ⟨G, hG⟩ : ∃ G, G = grownCap w (l + 19) l 5 := ⟨_, rfl⟩
  rw [← hG] at hrz hGn hG63
  have hgrew : Grew w.heap.size l G cs w (w.drew.alloc (.cells (cs.toArray ++ Builtin.zeroCells (Value.int .u8 0).cells 19 ++ Builtin.zeroCells (Value.int .u8 0).cells (G - (l + 19))) 5)) := by
    refine ⟨hGn, hG63, fun j v hj => ?_, fun j hj => ?_, fun j => ?_, (Below.refl w.heap.size w).drew.alloc (Nat.le_refl _) _⟩
    · show (World.alloc w.drew _).cell? ⟨w.drew.heap.size, j, none⟩ = _
      have hjl := (List.getElem?_eq_some_iff.1 hj).1
      rw [World.cell?_alloc_new, Array.append_assoc, Array.getElem?_append_left (by simpa using hjl)]
      simpa using hj
    · show ∃ v, (World.alloc w.drew _).cell? ⟨w.drew.heap.size, j, none⟩ = _
      simp only [World.cell?_alloc_new]
      exact ⟨_, Array.getElem?_eq_getElem (by simp [size_zeroCells, Value.cells]; omega)⟩
    · show (World.alloc w.drew _).frozen? ⟨w.drew.heap.size, j, none⟩ = _
      exact World.frozen?_alloc_new _ _ _ _
  obtain ⟨w1, hw1⟩ : ∃ w1, w1 = w.drew.alloc (.cells (cs.toArray ++ Builtin.zeroCells (Value.int .u8 0).cells 19 ++ Builtin.zeroCells (Value.int .u8 0).cells (G - (l + 19))) 5) := ⟨_, rfl⟩
  rw [← hw1] at hgrew hrz
  have HG : Hid (Grew w.heap.size l G cs w w1) := hgrew
  clear hold hG hcs hcl hw1 hgrew hi0 hz0 hs0 hb0
  cases base with
  | none =>
    have h0 := hnil rfl
    subst h0
    clear hnil
    go_enter Ybad.func7, Ybad.ntmps7
    go_wp2_with (at_builtin; refine Lib.wpList_append_run _ rfl _ _ _ _ rfl _ _ rfl rfl _ _ (hrz _) ?_)
    go_ret
    exact ⟨G, rfl, HG.out⟩
  | some a =>
    clear hnil
    obtain ⟨ab, ao, asp⟩ := a
    go_enter Ybad.func7, Ybad.ntmps7
    go_wp2_with (at_builtin; refine Lib.wpList_append_run _ rfl _ _ _ _ rfl _ _ rfl rfl _ _ (hrz _) ?_)
    go_ret
    exact ⟨G, rfl, HG.out⟩

/-- What appendChunk leaves. -/
structure Chunk (B l c : Nat) (cs : List Value) (w w' : World) : Prop where
  old : ∀ (j : Nat) (v : Value), cs[j]? = some v → w'.cell? ⟨B, j, none⟩ = some v
  new : ∀ i, i < 19 → w'.cell? ⟨B, l + i, none⟩ = some (.int .u8 (D19 c i))
  below : Below B w w'
  size : B < w'.heap.size

theorem pairs_below {B : Nat} {w w' : World} (hB : 0 < B) (h : Below B w w') (hP : Pairs w) : Pairs w' := fun i hi => (h.cell (p := ⟨0, i, none⟩) hB).trans (hP i hi)

set_option maxHeartbeats 1000000 in
theorem chunk_any (base : Option Addr) (l c : Nat) (cs : List Value) (w : World) (hc : c < 10000000000000000000) (hl : l ≤ 1024) (hcl : cs.length = l) (hnil : base = none → l = 0)
    (hcs : ∀ a, base = some a → ∀ j v, cs[j]? = some v → w.cell? (a.add j) = some v) (hB : 0 < w.heap.size) (hP : Pairs w) :
    Calls Ybad.prog 5 #[.slice base l l, .int .u64 c] w fun e w' => ∃ G, e = .returned (.slice (some ⟨w.heap.size, 0, none⟩) (l + 19) G) ∧ l + 19 ≤ G ∧ Chunk w.heap.size l c cs w w' := by
  have HG : Hid (Calls Ybad.prog 7 #[.slice base l l, .int .i64 19] w fun e w' => ∃ G, e = .returned (.slice (some ⟨w.heap.size, 0, none⟩) l G) ∧ Grew w.heap.size l G cs w w') := grow_any base l cs w hl hcl hnil hcs
  have HP : Hid (Pairs w) := hP
  have HL : Hid (cs.length = l) := hcl
  obtain ⟨q, hq⟩ : ∃ q, c / 1000000000000000000 = q := ⟨_, rfl⟩
  obtain ⟨r, hr⟩ : ∃ r, c % 1000000000000000000 = r := ⟨_, rfl⟩
  obtain ⟨y1, hy1⟩ : ∃ y1, r / 1000000000 = y1 := ⟨_, rfl⟩
  obtain ⟨y2, hy2⟩ : ∃ y2, r % 1000000000 = y2 := ⟨_, rfl⟩
  have q1 : (c : Int) / 1000000000000000000 = (q : Int) := by omega
  have q2 : (c : Int) % 1000000000000000000 = (r : Int) := by omega
  have q3 : (r : Int) / 1000000000 = (y1 : Int) := by omega
  have q4 : (r : Int) % 1000000000 = (y2 : Int) := by omega
  have b1 : q ≤ 9 := by omega
  have b2 : r < 1000000000000000000 := by omega
  have b3 : y1 < 1000000000 := by omega
  have b4 : y2 < 1000000000 := by omega
  have D0 : Hid (48 + q = D19 c 0) := by rw [← hq]; exact D19_zero c hc
  have DH : Hid (∀ i, i < 9 → Dg y1 i = D19 c (1 + i)) := by intro i hi; rw [← hy1, ← hr]; exact D19_hi c i hi
  have DL : Hid (∀ i, i < 9 → Dg y2 i = D19 c (10 + i)) := by intro i hi; rw [← hy2, ← hr]; exact D19_lo c i hi
  clear hq hr hy1 hy2 hcs hnil hcl hP
  go_enter Ybad.func5, Ybad.ntmps5
  go_wp2_with fail
  refine HG.out.mono ?_
  rintro e w1 ⟨G, rfl, hg0⟩
  have hg : Hid (Grew w.heap.size l G cs w w1) := hg0
  have hG1 := hg0.room
  have hG2 := hg0.max
  obtain ⟨v0, c0⟩ := hg0.any l (by omega)
  have f0 := hg0.frozen l
  clear hg0 HG
  go_wp2_with fail
  generalize hw2 : w1.setCell ⟨w.heap.size, l, none⟩ (.int .u8 (48 + (q : Int))) = w2
  have s1 : Hid (∀ j, j ≠ l → w2.cell? ⟨w.heap.size, j, none⟩ = w1.cell? ⟨w.heap.size, j, none⟩) := by
    intro j hj
    rw [← hw2, World.cell?_setCell_other _ _ _ _ (by intro hx; injection hx; omega)]
  have s2 : Hid (w2.cell? ⟨w.heap.size, l, none⟩ = some (.int .u8 (48 + (q : Int)))) := by
    show _ = _
    rw [← hw2]; exact World.cell?_setCell_same _ _ _ c0
  have s3 : Hid (∀ j, w2.frozen? ⟨w.heap.size, j, none⟩ = false) := by
    intro j; rw [← hw2, World.frozen?_setCell]; exact hg.out.frozen j
  have s4 : Hid (Below w.heap.size w w2) := by
    show Below _ _ _
    rw [← hw2]; exact hg.out.below.setCell (Nat.le_refl _) _
  clear hw2 c0 f0
  refine (nine_any w.heap.size (l + 1) 9 (G - l - 1) y1 w2 hB (by omega) b3 (pairs_below hB s4.out HP.out)
    (fun i hi => by rw [s1.out _ (by omega)]; exact hg.out.any _ (by omega)) (fun i _ => s3.out _)).mono ?_
  rintro e w3 ⟨rfl, hn0⟩
  have hn1 : Hid (NineTo w.heap.size (l + 1) y1 9 w2 w3) := hn0
  clear hn0
  go_wp2_with fail
  have t4 : Hid (Below w.heap.size w w3) := s4.out.trans hn1.out.below
  refine (nine_any w.heap.size (l + 10) 9 (G - l - 10) y2 w3 hB (by omega) b4 (pairs_below hB t4.out HP.out)
    (fun i hi => by rw [hn1.out.other _ (Or.inr (Or.inr (by show l + 1 + 9 ≤ l + 10 + i; omega))), s1.out _ (by omega)]; exact hg.out.any _ (by omega)) (fun i _ => by rw [hn1.out.frozen]; exact s3.out _)).mono ?_
  rintro e w4 ⟨rfl, hn0⟩
  have hn2 : Hid (NineTo w.heap.size (l + 10) y2 9 w3 w4) := hn0
  clear hn0
  go_wp2
  go_ret
  refine ⟨G, rfl, hG1, fun j v hj => ?_, fun i hi => ?_, t4.out.trans hn2.out.below, ?_⟩
  · have hjl : j < l := by rw [← HL.out]; exact (List.getElem?_eq_some_iff.1 hj).1
    rw [hn2.out.other _ (Or.inr (Or.inl (by show j < l + 10; omega))), hn1.out.other _ (Or.inr (Or.inl (by show j < l + 1; omega))), s1.out _ (by omega)]
    exact hg.out.cells j v hj
  · by_cases i0 : i = 0
    · subst i0
      rw [hn2.out.other _ (Or.inr (Or.inl (by show l + 0 < l + 10; omega))), hn1.out.other _ (Or.inr (Or.inl (by show l + 0 < l + 1; omega)))]
      have := s2.out
      have d := D0.out
      rw [show (48 : Int) + (q : Int) = ((D19 c 0 : Nat) : Int) by rw [← d]; omega] at this
      exact this
    · by_cases i1 : i < 10
      · rw [hn2.out.other _ (Or.inr (Or.inl (by show l + i < l + 10; omega)))]
        have := hn1.out.cells (i - 1) (by omega)
        rw [DH.out _ (by omega), show l + 1 + (i - 1) = l + i by omega, show 1 + (i - 1) = i by omega] at this
        exact this
      · have := hn2.out.cells (i - 10) (by omega)
        rw [DL.out _ (by omega), show l + 10 + (i - 10) = l + i by omega, show 10 + (i - 10) = i by omega] at this
        exact this
  · obtain ⟨v, hv⟩ := hn2.out.any 0 (by omega)
    exact World.block_lt_of_cell? _ _ hv

end Go.Proofs.YbulkhwoDoor

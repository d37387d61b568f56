import Derived.Test.YbulkhwaShelf
import Derived.Test.YbulkhwaJoinN
namespace Go.Proofs.Ybulkhwa
open Go.RowKit Go.Pool Go.Sort

/-- the slice v of ints holds zs -/
def Ints (w : World) (v : Value) (zs : List Int) : Prop :=
  (v = .slice none 0 0 ∧ zs = []) ∨ ∃ g c, v = .slice (some ⟨g, 0, none⟩) zs.length c ∧ g < w.heap.size ∧ ∀ j, j < zs.length → w.cell? ⟨g, j, none⟩ = some (.int .i64 (zs.getD j 0))

def sorted (zs : List Int) : List Int := zs.mergeSort fun x y => decide (x ≤ y)

theorem Ints.only {w w' : World} {v : Value} {zs : List Int} {S : List Nat} (h : Ints w v zs) (ho : Only S w w') (hn : ∀ k, v.ownBlock = some k → k ∉ S) : Ints w' v zs := by
  rcases h with h | ⟨g, c, rfl, hg, hc⟩
  · exact Or.inl h
  · exact Or.inr ⟨g, c, rfl, Nat.lt_of_lt_of_le hg ho.size, fun j hj => (ho.cell (p := ⟨g, j, none⟩) hg (hn g rfl)).trans (hc j hj)⟩

theorem Ints.drewN {w : World} {v : Value} {zs : List Int} (h : Ints w v zs) (q : Nat) : Ints (w.drewN q) v zs := h

theorem ints_get (zs : List Int) (j : Nat) (hj : j < zs.length) : (zs.map (Value.int .i64))[j]? = some (.int .i64 (zs.getD j 0)) := by
  simp [List.getD, hj]

theorem Ints.own {w : World} {base : Nat} {v : Value} {n : Nat} {zs : List Int} (h : w.ownsRow base 3 1 v n (zs.map (.int .i64))) : Ints w v zs := by
  have hl : zs.length = n := by have := h.1; simp at this; exact this
  rcases h.2 with ⟨rfl, rfl⟩ | ⟨g, c, cur, rfl, _, e3, _⟩
  · exact Or.inl ⟨rfl, List.eq_nil_of_length_eq_zero hl⟩
  · refine Or.inr ⟨g, c, by rw [hl], (Array.getElem?_eq_some_iff.1 e3).1, fun j hj => ?_⟩
    rw [h.cellAt j (by omega), ints_get zs j hj]

theorem putRow_block (w : World) (blk off : Nat) (d : Array Int) (k : Nat) (hk : k ≠ blk) : (putRow (Value.int .i64) w blk off d).heap[k]? = w.heap[k]? := by
  simp only [putRow, mapBlock]
  rw [Array.getElem?_modify]
  simp [Ne.symm hk]

theorem sort_own (w : World) (base : Nat) (v : Value) (n : Nat) (zs : List Int) (h : w.ownsRow base 3 1 v n (zs.map (.int .i64))) (hn : n ≤ 1024) :
    Calls Yba.prog 12 #[v] w fun e w' => e = .returned (.tuple #[]) ∧ Ints w' v (sorted zs) ∧ w.grownBy w' v.ownBlock := by
  have hl : zs.length = n := by have := h.1; simp at this; exact this
  have hi := Ints.own h
  have hs : (sorted zs).length = zs.length := by simp [sorted]
  by_cases h0 : zs.length = 0
  · have hz : zs = [] := List.eq_nil_of_length_eq_zero h0
    have : ∃ p c, v = .slice p 0 c := by
      rcases hi with ⟨rfl, _⟩ | ⟨g, c, rfl, _⟩
      · exact ⟨_, _, rfl⟩
      · exact ⟨_, c, by rw [h0]⟩
    obtain ⟨p, c, rfl⟩ := this
    refine (Yba.slices_Sort_int_none p c w).mono ?_
    rintro e w' ⟨rfl, rfl⟩
    refine ⟨rfl, ?_, ⟨rfl, rfl, rfl, Nat.le_refl _, fun _ _ _ => rfl⟩⟩
    subst hz
    simpa [sorted] using hi
  · rcases hi with ⟨_, rfl⟩ | ⟨g, c, rfl, hg, hc⟩
    · simp at h0
    · have hH : Holds (Value.int .i64) w g 0 zs.toArray := by
        intro j hj
        have hj' : j < zs.length := by simpa using hj
        refine ⟨?_, ?_⟩
        · rw [Nat.zero_add, hc j hj']
          simp [List.getD, hj']
        · rw [← hl] at h
          exact h.frozenAt _
      refine (Yba.slices_Sort_int g 0 c zs w hH hg (by omega)).mono ?_
      rintro e w' ⟨rfl, m, os, rfl⟩
      have hg' : g < (putRow (Value.int .i64) (Sort.ahead w m) g 0 (sorted zs).toArray).heap.size := by simpa using hg
      refine ⟨rfl, Or.inr ⟨g, c, by rw [hs], by simp; omega, fun j hj => ?_⟩, ?_⟩
      · show (grow (putRow (Value.int .i64) (Sort.ahead w m) g 0 (sorted zs).toArray) os).cell? _ = _
        rw [cell?_grow _ _ _ hg']
        have := cell?_putRow (Value.int .i64) (Sort.ahead w m) g 0 zs.toArray (sorted zs).toArray (holds_ahead _ _ _ _ _ _ hH) (by simp [hs]) j (by simpa using hj)
        rw [Nat.zero_add] at this
        rw [this]
        simp [List.getD, hj]
      · refine ⟨rfl, rfl, rfl, by simp, fun k hk hne => ?_⟩
        rw [heap_grow_old _ _ (by simpa using hk), putRow_block _ _ _ _ _ (by intro e; exact hne (by rw [e]; rfl))]
        rfl

theorem equal_ints (w : World) (v1 v2 : Value) (zs : List Int) (h1 : Ints w v1 zs) (h2 : Ints w v2 zs) (hn : zs.length ≤ 1024) :
    Calls Yba.prog 13 #[v1, v2] w fun e w' => e = .returned (.bool true) ∧ ∃ q, w' = w.drewN q := by
  by_cases h0 : zs.length = 0
  · have A : ∀ v, Ints w v zs → ∃ p c, v = .slice p 0 c := by
      rintro v (⟨rfl, _⟩ | ⟨g, c, rfl, _⟩)
      · exact ⟨_, _, rfl⟩
      · exact ⟨_, c, by rw [h0]⟩
    obtain ⟨p1, c1, rfl⟩ := A v1 h1
    obtain ⟨p2, c2, rfl⟩ := A v2 h2
    refine (Yba.slices_Equal_int_empty p1 p2 c1 0 c2 w (by omega)).mono ?_
    rintro e w' ⟨rfl, rfl⟩
    exact ⟨rfl, 0, rfl⟩
  · rcases h1 with ⟨_, rfl⟩ | ⟨g1, c1, rfl, _, hc1⟩
    · simp at h0
    · rcases h2 with ⟨_, rfl⟩ | ⟨g2, c2, rfl, _, hc2⟩
      · simp at h0
      · refine (Yba.slices_Equal_int g1 0 zs.length c1 g2 0 zs.length c2 zs zs w (Nat.le_refl _) (Nat.le_refl _) (by omega) (by omega) (fun j hj => by rw [Nat.zero_add]; exact hc1 j hj) (fun j hj => by rw [Nat.zero_add]; exact hc2 j hj)).mono ?_
        rintro e w' ⟨rfl, q, rfl⟩
        exact ⟨by simp, q, rfl⟩

/-- a copy by append to nil -/
theorem append_ints (w : World) (ty : TypeId) (v : Value) (zs : List Int) (h : Ints w v zs) (hn : zs.length ≤ 1024) :
    ∃ p n c w', (Builtin.append_ #[34, 34] ty #[.slice none 0 0, v]).run Yba.prog w = .ok (.slice p n c) w' ∧ Ints w' (.slice p n c) zs ∧ w.grownBy w' none ∧ (∀ k, (Value.slice p n c).ownBlock = some k → w.heap.size ≤ k) := by
  obtain ⟨i0, hi, hz0, hz1, hz2⟩ := info_parts info3
  rcases h with ⟨rfl, rfl⟩ | ⟨g, c, rfl, hg, hc⟩
  · refine ⟨none, 0, 0, w, run_append_owned_none (P := Yba.prog) w 0 34 ty 3 i0 1 Yba.underlying34 hi (.slice none 0 0) 0 [] (World.ownsRow_nil _ _ _ _), Or.inl ⟨rfl, rfl⟩, ⟨rfl, rfl, rfl, Nat.le_refl _, fun _ _ _ => rfl⟩, fun k hk => by simp [Value.ownBlock] at hk⟩
  · obtain ⟨v', w', r1, r2, r3, _⟩ := run_append_own (P := Yba.prog) w w.heap.size 34 ty 3 i0 _ 1 8 Yba.underlying34 hi hz0 hz1 hz2 rfl (by decide) (.slice none 0 0) 0 [] (World.ownsRow_nil _ _ _ _) ⟨g, 0, none⟩ zs.length c (zs.map (.int .i64)) (by simp)
      (fun j u hj => by
        have hjl : j < zs.length := by
          have := (List.getElem?_eq_some_iff.1 hj).1
          simpa using this
        rw [Go.WideShapes.add_plain, Nat.zero_add, hc j hjl, ← hj, ints_get zs j hjl])
      (fun u hu => by obtain ⟨x, _, rfl⟩ := List.mem_map.1 hu; rfl) (by unfold maxLen; omega) (by omega) (Nat.le_refl _)
    rw [Nat.zero_add, List.nil_append] at r2
    have hv : ∃ p n c, v' = .slice p n c := by
      rcases r2.2 with ⟨h, _⟩ | ⟨g, cap, cur, h, _⟩
      · exact ⟨_, _, _, h⟩
      · exact ⟨_, _, _, h⟩
    obtain ⟨p, n, c', rfl⟩ := hv
    exact ⟨p, n, c', w', r1, Ints.own r2, r3, fun k hk => (r2.lt k hk).1⟩

end Go.Proofs.Ybulkhwa

import Derived.Test.YbulkhwaL5
namespace Go.Proofs.Ybulkhwa
open Go.RowKit Go.Pool

theorem D1.root {X : Fx} {s45 : Value} {wx : World} (h : D1 X (-1) s45 wx) (hl : X.lvl = true) (u : Int) : D1 X u s45 (wx.setCell ⟨X.q0 + 2, 2, none⟩ (.int .i32 u)) := by
  have hs := h.size
  have hbq := h.bq
  have h8 := h.t8.size
  rcases h.lv with ⟨_, h2, h3, h4, h5, h6⟩ | ⟨h1, _⟩
  · have o2 : Only [X.q0 + 2] wx (wx.setCell ⟨X.q0 + 2, 2, none⟩ (.int .i32 u)) := (Only.refl _ _).setCell (by simp) _
    refine ⟨⟨fun x h1 h7 => (h.t8.row x h1 h7).only o2 (by omega) (by simp; omega), (o2.cell (p := ⟨X.n0 + 8, X.t, none⟩) (by show X.n0 + 8 < _; omega) (by simp; omega)).trans h.t8.st, (o2.cell (p := ⟨X.n0, 0, none⟩) (by show X.n0 < _; omega) (by simp; omega)).trans h.t8.box, h.t8.only.setNew (p := ⟨X.q0 + 2, 2, none⟩) (by show X.w.heap.size ≤ X.q0 + 2; omega) _, by rw [World.size_setCell]; exact h8⟩, ?_, (o2.cell (p := ⟨X.q0, 0, none⟩) (by show X.q0 < _; omega) (by simp)).trans h.i0, (o2.cell (p := ⟨X.q0, 1, none⟩) (by show X.q0 < _; omega) (by simp)).trans h.i1, (o2.cell (p := ⟨X.q0, 2, none⟩) (by show X.q0 < _; omega) (by simp)).trans h.i2, (o2.frozen (p := ⟨X.q0 + 1, 0, none⟩) (by show X.q0 + 1 < _; omega) (by simp)).trans h.fF, Or.inl ⟨hl, h2, (o2.cell (p := ⟨X.q0 + 1, 0, none⟩) (by show X.q0 + 1 < _; omega) (by simp)).trans h3, ?_, own_only h5 o2 (fun p hp => by simp [Value.ownBlock] at hp; simp; omega), by rw [World.size_setCell]; exact h6⟩, by rw [World.size_setCell]; exact hs, h.bq, h.ob⟩
    · refine own_only h.own o2 (fun p hp => ?_)
      cases e : X.hp with
      | none => rw [e] at hp; simp [Value.ownBlock] at hp
      | some a =>
        have := h.ob a e
        rw [e] at hp
        simp [Value.ownBlock] at hp
        simp
        omega
    · have := (h4.stored 2 (.int .i32 u)).1
      simpa using this
  · rw [hl] at h1; cases h1

/-- writes beyond the item's blocks -/
theorem D1.beyond {X : Fx} {rt : Int} {s45 : Value} {wx wy : World} {S : List Nat} (h : D1 X rt s45 wx) (ho : Only S wx wy) (h1 : ∀ b ∈ S, X.q0 + 2 ≤ b) (h2 : X.lvl = true → ∀ b ∈ S, X.q0 + 4 ≤ b) : D1 X rt s45 wy := by
  have hs := h.size
  have hbq := h.bq
  have h8 := h.t8.size
  have N : ∀ b, b < X.q0 + 2 → b ∉ S := fun b hb hm => by have := h1 b hm; omega
  refine ⟨⟨fun x k1 k7 => (h.t8.row x k1 k7).only ho (by omega) (N _ (by omega)), (ho.cell (p := ⟨X.n0 + 8, X.t, none⟩) (by show X.n0 + 8 < _; omega) (N _ (by show X.n0 + 8 < _; omega))).trans h.t8.st, (ho.cell (p := ⟨X.n0, 0, none⟩) (by show X.n0 < _; omega) (N _ (by show X.n0 < _; omega))).trans h.t8.box, ?_, Nat.le_trans h8 ho.size⟩, ?_, (ho.cell (p := ⟨X.q0, 0, none⟩) (by show X.q0 < _; omega) (N _ (by show X.q0 < _; omega))).trans h.i0, (ho.cell (p := ⟨X.q0, 1, none⟩) (by show X.q0 < _; omega) (N _ (by show X.q0 < _; omega))).trans h.i1, (ho.cell (p := ⟨X.q0, 2, none⟩) (by show X.q0 < _; omega) (N _ (by show X.q0 < _; omega))).trans h.i2, (ho.frozen (p := ⟨X.q0 + 1, 0, none⟩) (by show X.q0 + 1 < _; omega) (N _ (by show X.q0 + 1 < _; omega))).trans h.fF, ?_, Nat.le_trans hs ho.size, h.bq, h.ob⟩
  · refine ⟨ho.os.trans h.t8.only.os, ho.tape.trans h.t8.only.tape, ho.output.trans h.t8.only.output, Nat.le_trans h.t8.only.size ho.size, fun k hk _ => ?_⟩
    have := h.t8.only.size
    exact (ho.block k (by omega) (N _ (by omega))).trans (h.t8.only.block k hk (by simp))
  · refine own_only h.own ho (fun p hp => ?_)
    cases e : X.hp with
    | none => rw [e] at hp; simp [Value.ownBlock] at hp
    | some a =>
      have := h.ob a e
      rw [e] at hp
      simp [Value.ownBlock] at hp
      exact N _ (by omega)
  · rcases h.lv with ⟨k1, k2, k3, k4, k5, k6⟩ | ⟨k1, k2, k3⟩
    · have N4 : ∀ b, b < X.q0 + 4 → b ∉ S := fun b hb hm => by have := h2 k1 b hm; omega
      exact Or.inl ⟨k1, k2, (ho.cell (p := ⟨X.q0 + 1, 0, none⟩) (by show X.q0 + 1 < _; omega) (N _ (by show X.q0 + 1 < _; omega))).trans k3, own_only k4 ho (fun p hp => by simp [Value.ownBlock] at hp; exact N4 _ (by omega)), own_only k5 ho (fun p hp => by simp [Value.ownBlock] at hp; exact N4 _ (by omega)), Nat.le_trans k6 ho.size⟩
    · exact Or.inr ⟨k1, k2, (ho.cell (p := ⟨X.q0 + 1, 0, none⟩) (by show X.q0 + 1 < _; omega) (N _ (by show X.q0 + 1 < _; omega))).trans k3⟩

def nd4 (N u : Nat) (aU : Int) (mem : Bool) : Nd := if mem then { nd3 N with a := upd (fun _ => 0) u aU, h := upd (fun _ => 0) u 1 } else nd3 N
def in4 (N u : Nat) (mem : Bool) : Nat → Int := if mem then upd (in3 N) u 0 else in3 N

/-- the state ahead of the manager -/
structure D4 (X : Fx) (q1 u : Nat) (aU : Int) (mem : Bool) (s45 : Value) (wx : World) : Prop where
  d1 : D1 X (if mem then (u : Int) else -1) s45 wx
  g : Row wx q1 (X.N * 4) (nodeC (nd4 X.N u aU mem))
  a : Row wx (q1 + 1) X.N (i32s (in4 X.N u mem))
  size : wx.heap.size = q1 + 2
  q2 : X.q0 + 2 ≤ q1
  q4 : X.lvl = true → X.q0 + 4 ≤ q1

theorem D4.plain {X : Fx} {q1 u : Nat} {aU : Int} {s45 : Value} {wC wF : World} (h : D1 X (-1) s45 wC) (h3 : L3 X.N q1 X.N wC wF) (hq : q1 = wC.heap.size) : D4 X q1 u aU false s45 wF := by
  refine ⟨h.only h3.only, h3.g, h3.a, h3.size, by rw [hq]; exact h.size, fun hl => ?_⟩
  rcases h.lv with ⟨_, _, _, _, _, h6⟩ | ⟨h1, _⟩
  · rw [hq]; exact h6
  · rw [hl] at h1; cases h1

theorem D4.member {X : Fx} {q1 u : Nat} {aU : Int} {s45 : Value} {wC wF : World} (h : D1 X (-1) s45 wC) (h3 : L3 X.N q1 X.N wC wF) (hq : q1 = wC.heap.size) (hl : X.lvl = true) (hu : u < X.N) :
    D4 X q1 u aU true s45 ((((wF.setCell ⟨q1, u * 4 + 2, none⟩ (.int .i64 aU)).setCell ⟨q1, u * 4 + 3, none⟩ (.int .i8 1)).setCell ⟨X.q0 + 2, 2, none⟩ (.int .i32 u)).setCell ⟨q1 + 1, u, none⟩ (.int .i32 0)) := by
  have p := D4.plain (u := u) (aU := aU) h h3 hq
  have q4 := p.q4 hl
  have b1 := h.bq
  have n1 : ∀ (v1 v2 : Value), Only [] wC ((wF.setCell ⟨q1, u * 4 + 2, none⟩ v1).setCell ⟨q1, u * 4 + 3, none⟩ v2) := fun v1 v2 => (h3.only.setNew (p := ⟨q1, u * 4 + 2, none⟩) (by show wC.heap.size ≤ q1; omega) _).setNew (p := ⟨q1, u * 4 + 3, none⟩) (by show wC.heap.size ≤ q1; omega) _
  have d2 := ((h.only (n1 (.int .i64 aU) (.int .i8 1))).root hl u)
  have hz := d2.size
  rw [World.size_setCell, World.size_setCell, World.size_setCell, h3.size] at hz
  refine ⟨?_, ?_, ?_, by simp only [World.size_setCell]; exact h3.size, p.q2, p.q4⟩
  · -- a store into 'in', a new row
    have o : Only [q1 + 1] _ _ := (Only.refl [q1 + 1] (((wF.setCell ⟨q1, u * 4 + 2, none⟩ (.int .i64 aU)).setCell ⟨q1, u * 4 + 3, none⟩ (.int .i8 1)).setCell ⟨X.q0 + 2, 2, none⟩ (.int .i32 u))).setCell (p := ⟨q1 + 1, u, none⟩) (by simp) (.int .i32 0)
    exact d2.beyond o (by intro b hb; simp at hb; omega) (fun _ => by intro b hb; simp at hb; omega)
  · have g1 := (((h3.g.nd2 u hu aU).nd3 u hu 1).other (p := ⟨X.q0 + 2, 2, none⟩) (by show X.q0 + 2 ≠ q1; omega) (.int .i32 u)).other (p := ⟨q1 + 1, u, none⟩) (by show q1 + 1 ≠ q1; omega) (.int .i32 0)
    exact g1
  · have a1 := (((h3.a.other (p := ⟨q1, u * 4 + 2, none⟩) (by show q1 ≠ q1 + 1; omega) (.int .i64 aU)).other (p := ⟨q1, u * 4 + 3, none⟩) (by show q1 ≠ q1 + 1; omega) (.int .i8 1)).other (p := ⟨X.q0 + 2, 2, none⟩) (by show X.q0 + 2 ≠ q1 + 1; omega) (.int .i32 u)).setI32 u hu 0
    exact a1

theorem errors_new (s : ByteArray) (w : World) : Calls Yba.prog 9 #[.string s] w fun e w' => e = .returned (.iface 98 (.pointer (some ⟨w.heap.size, 0, none⟩))) ∧ w' = w.alloc (.cells #[.string s] 100) := by
  go_enter Yba.func9, Yba.ntmps9
  go_wp2
  go_ret
  exact ⟨rfl, rfl⟩

/-- the six blocks made ahead of the manager -/
def six (q1 : Nat) (s1 s2 : ByteArray) (w : World) : World := (((((w.alloc (.cells #[.int .i64 0] 3)).alloc (.cells #[.int .i64 0, .int .u8 0, .int .i64 0, .string ⟨#[]⟩, .slice none 0 0] 71)).alloc (.cells #[.slice none 0 0] 34)).alloc (.cells #[.string s1] 100)).alloc (.cells #[.iface 98 (.pointer (some ⟨q1 + 5, 0, none⟩))] 73)).alloc (.cells #[.string s2] 100)

structure D5 (X : Fx) (q1 u : Nat) (aU : Int) (mem : Bool) (s45 : Value) (wx : World) : Prop where
  d1 : D1 X (if mem then (u : Int) else -1) s45 wx
  g : Row wx q1 (X.N * 4) (nodeC (nd4 X.N u aU mem))
  a : Row wx (q1 + 1) X.N (i32s (in4 X.N u mem))
  q2 : X.q0 + 2 ≤ q1
  q4 : X.lvl = true → X.q0 + 4 ≤ q1
  c : Row wx (q1 + 2) 1 (fun _ => .int .i64 0)
  got : ∃ g, Row wx (q1 + 3) 5 g
  h : Row wx (q1 + 4) 1 (fun _ => .slice none 0 0)
  s : wx.cell? ⟨q1 + 6, 0, none⟩ = some (.iface 98 (.pointer (some ⟨q1 + 5, 0, none⟩)))
  size : q1 + 8 ≤ wx.heap.size

theorem D4.six {X : Fx} {q1 u : Nat} {aU : Int} {mem : Bool} {s45 : Value} {wx : World} (h : D4 X q1 u aU mem s45 wx) (hN : 0 < X.N) (s1 s2 : ByteArray) : D5 X q1 u aU mem s45 (six q1 s1 s2 wx) ∧ (six q1 s1 s2 wx).heap.size = q1 + 8 := by
  have hs := h.size
  have o : Only [] wx (Ybulkhwa.six q1 s1 s2 wx) := (((((((Only.refl _ _).alloc _).alloc _).alloc _).alloc _).alloc _).alloc _)
  have e : (Ybulkhwa.six q1 s1 s2 wx).heap = (((((wx.heap.push (.cells #[.int .i64 0] 3)).push (.cells #[.int .i64 0, .int .u8 0, .int .i64 0, .string ⟨#[]⟩, .slice none 0 0] 71)).push (.cells #[.slice none 0 0] 34)).push (.cells #[.string s1] 100)).push (.cells #[.iface 98 (.pointer (some ⟨q1 + 5, 0, none⟩))] 73)).push (.cells #[.string s2] 100) := rfl
  have sz : (Ybulkhwa.six q1 s1 s2 wx).heap.size = q1 + 8 := by rw [e]; simp [hs]
  refine ⟨⟨h.d1.only o, h.g.only o (h.g.lt (by omega)) (by simp), h.a.only o (h.a.lt hN) (by simp), h.q2, h.q4, ?_, ⟨fun j => (#[.int .i64 0, .int .u8 0, .int .i64 0, .string ⟨#[]⟩, .slice none 0 0] : Array Value).getD j undef, ?_⟩, ?_, ?_, by omega⟩, sz⟩
  · refine Row.ofHeap (C := #[.int .i64 0]) (t := 3) ?_ (fun (j : Nat) (hj : j < 1) => by
      have : j = 0 := by omega
      subst this
      rfl)
    rw [e]; simp only [Array.getElem?_push, Array.size_push]
    rw [if_neg (by omega), if_neg (by omega), if_neg (by omega), if_neg (by omega), if_neg (by omega), if_pos (by omega)]
  · refine Row.ofHeap (C := #[.int .i64 0, .int .u8 0, .int .i64 0, .string ⟨#[]⟩, .slice none 0 0]) (t := 71) ?_ (fun j hj => by
      have : j = 0 ∨ j = 1 ∨ j = 2 ∨ j = 3 ∨ j = 4 := by omega
      rcases this with rfl | rfl | rfl | rfl | rfl <;> rfl)
    rw [e]; simp only [Array.getElem?_push, Array.size_push]
    rw [if_neg (by omega), if_neg (by omega), if_neg (by omega), if_neg (by omega), if_pos (by omega)]
  · refine Row.ofHeap (C := #[.slice none 0 0]) (t := 34) ?_ (fun (j : Nat) (hj : j < 1) => by
      have : j = 0 := by omega
      subst this
      rfl)
    rw [e]; simp only [Array.getElem?_push, Array.size_push]
    rw [if_neg (by omega), if_neg (by omega), if_neg (by omega), if_pos (by omega)]
  · have : (Ybulkhwa.six q1 s1 s2 wx).heap[q1 + 6]? = some (.cells #[.iface 98 (.pointer (some ⟨q1 + 5, 0, none⟩))] 73 (0, 0)) := by
      rw [e]; simp only [Array.getElem?_push, Array.size_push]
      rw [if_neg (by omega), if_pos (by omega)]
    rw [cell_of_heap this]; rfl

end Go.Proofs.Ybulkhwa

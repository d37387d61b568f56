import Derived.Test.YbulkhwaL4
namespace Go.Proofs.Ybulkhwa
open Go.RowKit Go.Pool

/-- the numbers that stay -/
structure Fx where
  N : Nat
  n0 : Nat
  t : Nat
  sT : Nat
  w : World
  fr : Bool
  bs : Nat
  hp : Option Addr
  hn : Nat
  hc : Nat
  L : Nat → Int
  V : Nat → Nat
  cn : Nat
  iv : Nat
  lv : Nat
  lvl : Bool
  q0 : Nat

/-- the holders, the item, the levels -/
structure D1 (X : Fx) (rt : Int) (s45 : Value) (wx : World) : Prop where
  t8 : T8 X.N X.n0 X.t X.sT X.w X.fr wx
  own : wx.ownsRow X.bs 58 2 (.slice X.hp X.hn X.hc) X.hn (hcells X.L X.V X.hn)
  i0 : wx.cell? ⟨X.q0, 0, none⟩ = some (.slice X.hp X.hn X.hc)
  i1 : wx.cell? ⟨X.q0, 1, none⟩ = some (.int .i32 X.cn)
  i2 : wx.cell? ⟨X.q0, 2, none⟩ = some (.int .u32 X.iv)
  fF : wx.frozen? ⟨X.q0 + 1, 0, none⟩ = false
  lv : (X.lvl = true ∧ s45 = .slice (some ⟨X.q0 + 2, 0, none⟩) 1 1 ∧ wx.cell? ⟨X.q0 + 1, 0, none⟩ = some (.slice (some ⟨X.q0 + 3, 0, none⟩) 1 1) ∧ wx.ownsRow 0 64 3 (.slice (some ⟨X.q0 + 2, 0, none⟩) 1 1) 1 [.int .i32 0, .int .u32 X.lv, .int .i32 rt] ∧ wx.ownsRow 0 21 1 (.slice (some ⟨X.q0 + 3, 0, none⟩) 1 1) 1 [.int .i32 0] ∧ X.q0 + 4 ≤ wx.heap.size) ∨
    (X.lvl = false ∧ s45 = .slice none 0 0 ∧ wx.cell? ⟨X.q0 + 1, 0, none⟩ = some (.slice none 0 0))
  size : X.q0 + 2 ≤ wx.heap.size
  bq : X.n0 = X.w.heap.size ∧ X.n0 + 9 ≤ X.bs ∧ X.bs ≤ X.q0
  ob : ∀ a, X.hp = some a → a.block < X.q0

theorem D1.only {X : Fx} {rt : Int} {s45 : Value} {wx wy : World} (h : D1 X rt s45 wx) (ho : Only [] wx wy) : D1 X rt s45 wy := by
  have hs := h.size
  refine ⟨h.t8.only' ho, own_only h.own ho (by simp), (ho.cell (p := ⟨X.q0, 0, none⟩) (by show X.q0 < _; omega) (by simp)).trans h.i0, (ho.cell (p := ⟨X.q0, 1, none⟩) (by show X.q0 < _; omega) (by simp)).trans h.i1, (ho.cell (p := ⟨X.q0, 2, none⟩) (by show X.q0 < _; omega) (by simp)).trans h.i2, (ho.frozen (p := ⟨X.q0 + 1, 0, none⟩) (by show X.q0 + 1 < _; omega) (by simp)).trans h.fF, ?_, Nat.le_trans hs ho.size, h.bq, h.ob⟩
  rcases h.lv with ⟨h1, h2, h3, h4, h5, h6⟩ | ⟨h1, h2, h3⟩
  · exact Or.inl ⟨h1, h2, (ho.cell (p := ⟨X.q0 + 1, 0, none⟩) (by show X.q0 + 1 < _; omega) (by simp)).trans h3, own_only h4 ho (by simp), own_only h5 ho (by simp), Nat.le_trans h6 ho.size⟩
  · exact Or.inr ⟨h1, h2, (ho.cell (p := ⟨X.q0 + 1, 0, none⟩) (by show X.q0 + 1 < _; omega) (by simp)).trans h3⟩

/-- the item's box, the empty row of levels -/
structure D0 (X : Fx) (wx : World) : Prop where
  t8 : T8 X.N X.n0 X.t X.sT X.w X.fr wx
  own : wx.ownsRow X.bs 58 2 (.slice X.hp X.hn X.hc) X.hn (hcells X.L X.V X.hn)
  i : Row wx X.q0 3 (fun j => if j = 0 then .slice X.hp X.hn X.hc else if j = 1 then .int .i32 X.cn else .int .u32 X.iv)
  F : Row wx (X.q0 + 1) 1 (fun _ => .slice none 0 0)
  size : wx.heap.size = X.q0 + 2
  bq : X.n0 = X.w.heap.size ∧ X.n0 + 9 ≤ X.bs ∧ X.bs ≤ X.q0

theorem D0.start {X : Fx} {wB : World} (h8 : T8 X.N X.n0 X.t X.sT X.w X.fr wB) (ho : wB.ownsRow X.bs 58 2 (.slice X.hp X.hn X.hc) X.hn (hcells X.L X.V X.hn)) (hq : X.q0 = wB.heap.size) (hb : X.n0 = X.w.heap.size ∧ X.n0 + 9 ≤ X.bs ∧ X.bs ≤ wB.heap.size) :
    D0 X ((wB.alloc (.cells #[.slice X.hp X.hn X.hc, .int .i32 X.cn, .int .u32 X.iv] 60)).alloc (.cells #[.slice none 0 0] 24)) := by
  refine ⟨(h8.only' ((Only.refl _ _).alloc _)).only' ((Only.refl _ _).alloc _), (ho.alloc _).alloc _, ?_, ?_, by simp [hq], by rw [hq]; exact hb⟩
  · rw [hq]
    refine (Row.new _ _ _ _ _ fun j hj => ?_).alloc (by simp) _
    have : j = 0 ∨ j = 1 ∨ j = 2 := by omega
    rcases this with rfl | rfl | rfl <;> rfl
  · rw [hq]
    have := Row.new (wB.alloc (.cells #[.slice X.hp X.hn X.hc, .int .i32 X.cn, .int .u32 X.iv] 60)) #[.slice none 0 0] 24 1 (fun _ => .slice none 0 0) (fun (j : Nat) (hj : j < 1) => by
      have : j = 0 := by omega
      subst this
      rfl)
    simpa using this

theorem D0.bare {X : Fx} {wx : World} (h : D0 X wx) (hl : X.lvl = false) (hob : ∀ a, X.hp = some a → a.block < X.q0) : D1 X (-1) (.slice none 0 0) wx :=
  ⟨h.t8, h.own, h.i.cell 0 (by decide), h.i.cell 1 (by decide), h.i.cell 2 (by decide), h.F.frozen 0, Or.inr ⟨hl, rfl, h.F.cell 0 (by decide)⟩, by have := h.size; omega, h.bq, hob⟩

theorem D0.full {X : Fx} {wx : World} (h : D0 X wx) (hl : X.lvl = true) (hob : ∀ a, X.hp = some a → a.block < X.q0) :
    D1 X (-1) (.slice (some ⟨X.q0 + 2, 0, none⟩) 1 1) (((wx.setCell ⟨X.q0 + 1, 0, none⟩ (.slice (some ⟨X.q0 + 2 + 1, 0, none⟩) 1 1)).alloc (.cells #[.int .i32 0, .int .u32 X.lv, .int .i32 (-1)] 64)).alloc (.cells #[.int .i32 0] 21)) := by
  have hs := h.size
  have hbq := h.bq
  have h8 := h.t8.size
  have h8s := h.t8.only.size
  obtain ⟨wz, hz⟩ : ∃ y, y = wx.setCell ⟨X.q0 + 1, 0, none⟩ (.slice (some ⟨X.q0 + 2 + 1, 0, none⟩) 1 1) := ⟨_, rfl⟩
  have sz : wz.heap.size = X.q0 + 2 := by rw [hz, World.size_setCell]; exact hs
  have o2 : Only [X.q0 + 1] wx wz := by rw [hz]; exact (Only.refl _ _).setCell (by simp) _
  have F1 : wz.cell? ⟨X.q0 + 1, 0, none⟩ = some (.slice (some ⟨X.q0 + 3, 0, none⟩) 1 1) := by rw [hz]; exact World.cell?_setCell_same _ _ _ (h.F.cell 0 (by decide))
  have F2 : wz.frozen? ⟨X.q0 + 1, 0, none⟩ = false := by rw [hz, World.frozen?_setCell]; exact h.F.frozen 0
  have t8 : T8 X.N X.n0 X.t X.sT X.w X.fr wz := by
    refine ⟨fun x h1 h7 => (h.t8.row x h1 h7).only o2 (by omega) (by simp; omega), (o2.cell (p := ⟨X.n0 + 8, X.t, none⟩) (by show X.n0 + 8 < _; omega) (by simp; omega)).trans h.t8.st, (o2.cell (p := ⟨X.n0, 0, none⟩) (by show X.n0 < _; omega) (by simp; omega)).trans h.t8.box, ?_, by omega⟩
    rw [hz]; exact h.t8.only.setNew (p := ⟨X.q0 + 1, 0, none⟩) (by show X.w.heap.size ≤ X.q0 + 1; omega) _
  have ow : wz.ownsRow X.bs 58 2 (.slice X.hp X.hn X.hc) X.hn (hcells X.L X.V X.hn) := by
    refine own_only h.own o2 (fun p hp => ?_)
    cases e : X.hp with
    | none => rw [e] at hp; simp [Value.ownBlock] at hp
    | some a =>
      have := hob a e
      rw [e] at hp
      simp [Value.ownBlock] at hp
      simp
      omega
  have i := h.i.only o2 (by omega) (by simp)
  rw [← hz]
  obtain ⟨wy, hy⟩ : ∃ y, y = (wz.alloc (.cells #[.int .i32 0, .int .u32 X.lv, .int .i32 (-1)] 64)).alloc (.cells #[.int .i32 0] 21) := ⟨_, rfl⟩
  have o1 : Only [] wz wy := by rw [hy]; exact ((Only.refl _ _).alloc _).alloc _
  have sy : wy.heap.size = X.q0 + 4 := by rw [hy]; simp [sz]
  have hl2 : wy.heap[X.q0 + 2]? = some (.cells #[.int .i32 0, .int .u32 X.lv, .int .i32 (-1)] 64 (0, 0)) := by
    rw [hy, ← sz]; show ((wz.heap.push _).push _)[wz.heap.size]? = _; simp only [Array.getElem?_push, Array.size_push]; rw [if_neg (by omega), if_pos trivial]
  have hl3 : wy.heap[X.q0 + 3]? = some (.cells #[.int .i32 0] 21 (0, 0)) := by
    have : X.q0 + 3 = wz.heap.size + 1 := by omega
    rw [hy, this]; show ((wz.heap.push _).push _)[wz.heap.size + 1]? = _; simp only [Array.getElem?_push, Array.size_push]; rw [if_pos trivial]
  rw [← hy]
  have i' := i.only o1 (by omega) (by simp)
  exact ⟨t8.only' o1, own_only ow o1 (by simp), i'.cell 0 (by decide), i'.cell 1 (by decide), i'.cell 2 (by decide), (o1.frozen (p := ⟨X.q0 + 1, 0, none⟩) (by show X.q0 + 1 < _; omega) (by simp)).trans F2,
    Or.inl ⟨hl, rfl, (o1.cell (p := ⟨X.q0 + 1, 0, none⟩) (by show X.q0 + 1 < _; omega) (by simp)).trans F1, ⟨rfl, .inr ⟨X.q0 + 2, 1, _, rfl, Nat.zero_le _, hl2, Nat.le_refl _, by unfold maxLen; omega, rfl, rfl⟩⟩, ⟨rfl, .inr ⟨X.q0 + 3, 1, _, rfl, Nat.zero_le _, hl3, Nat.le_refl _, by unfold maxLen; omega, rfl, rfl⟩⟩, by omega⟩, by omega, h.bq, hob⟩

/-- nodes and 'in' while loop 3 runs -/
def nd3 (k : Nat) : Nd := { l := fun j => if j < k then -1 else 0, r := fun j => if j < k then -1 else 0, a := fun _ => 0, h := fun _ => 0 }
def in3 (k : Nat) : Nat → Int := fun j => if j < k then -1 else 0

structure L3 (N q1 k : Nat) (wC wr : World) : Prop where
  g : Row wr q1 (N * 4) (nodeC (nd3 k))
  a : Row wr (q1 + 1) N (i32s (in3 k))
  only : Only [] wC wr
  size : wr.heap.size = q1 + 2

theorem ndZ_get (N j : Nat) (h : j < N * 4) : (ndZ N)[j]? = some (nodeC (nd3 0) j) := by
  have hs : j < (ndZ N).size := by simp [ndZ, madeCells]; omega
  rw [Array.getElem?_eq_getElem hs]
  simp only [ndZ, madeCells, nodeC, nd3]
  have : j % 4 = 0 ∨ j % 4 = 1 ∨ j % 4 = 2 ∨ j % 4 = 3 := by omega
  rcases this with e | e | e | e <;> simp [e]

theorem L3.start (N : Nat) (wC : World) : L3 N wC.heap.size 0 wC ((wC.alloc (.cells (ndZ N) 68)).alloc (.cells (i32Z N) 21)) := by
  refine ⟨(Row.new _ _ _ _ _ fun j hj => ndZ_get N j hj).alloc (by simp) _, ?_, ((Only.refl _ _).alloc _).alloc _, by simp⟩
  have := Row.new (wC.alloc (.cells (ndZ N) 68)) (i32Z N) 21 N (i32s (in3 0)) (fun j hj => by rw [i32Z_get N j hj]; simp [i32s, in3])
  simpa using this

theorem updk (k : Nat) : upd (fun j => if j < k then (-1 : Int) else 0) k (-1) = fun j => if j < k + 1 then -1 else 0 := by
  funext j
  unfold upd
  by_cases e : j = k
  · simp [e]
  · rw [if_neg e]
    show (if j < k then (-1 : Int) else 0) = _
    by_cases h : j < k
    · rw [if_pos h, if_pos (by omega)]
    · rw [if_neg h, if_neg (by omega)]

theorem L3.step {N q1 k : Nat} {wC wr : World} (h : L3 N q1 k wC wr) (hq : wC.heap.size ≤ q1) (hk : k < N) :
    L3 N q1 (k + 1) wC (((wr.setCell ⟨q1, k * 4, none⟩ (.int .i32 (-1))).setCell ⟨q1, k * 4 + 1, none⟩ (.int .i32 (-1))).setCell ⟨q1 + 1, k, none⟩ (.int .i32 (-1))) := by
  refine ⟨?_, ?_, ((h.only.setNew (p := ⟨q1, k * 4, none⟩) hq _).setNew (p := ⟨q1, k * 4 + 1, none⟩) hq _).setNew (p := ⟨q1 + 1, k, none⟩) (by show wC.heap.size ≤ q1 + 1; omega) _, by simp only [World.size_setCell]; exact h.size⟩
  · have := (((h.g.nd0 k hk (-1)).nd1 k hk (-1)).other (p := ⟨q1 + 1, k, none⟩) (by show q1 + 1 ≠ q1; omega) (.int .i32 (-1)))
    simp only [nd3, updk] at this
    exact this
  · have := ((h.a.other (p := ⟨q1, k * 4, none⟩) (by show q1 ≠ q1 + 1; omega) (.int .i32 (-1))).other (p := ⟨q1, k * 4 + 1, none⟩) (by show q1 ≠ q1 + 1; omega) (.int .i32 (-1))).setI32 k hk (-1)
    rw [show upd (in3 k) k (-1) = in3 (k + 1) from updk k] at this
    exact this

end Go.Proofs.Ybulkhwa

import Derived.Test.YbulkhwaWt
namespace Go.Proofs.Ybulkhwa
open Go.RowKit Go.Pool

/-- the blocks that 'reportWait' reads beside -/
structure Rb where
  O : Nat
  X : Nat
  LO : Nat
  J : Nat
  LI : Nat

/-- the numbers of the state -/
structure Nm where
  hp : Option Addr
  hn : Nat
  hc : Nat
  L : Nat → Int
  vr : Nat → Int
  it : ByteArray
  iv : Int
  cnt : Int
  lvl : Bool
  lb : Nat
  fb : Nat
  lv : Int
  rt : Int

def Nm.sees (n : Nm) : Bool := !(decide (0 < n.cnt) && decide (n.lv < n.vr (n.hn - 1)))
def Nm.cur (n : Nm) : Int := if n.lvl && n.sees then 0 else -1
def Nm.ln (n : Nm) : Nat := if n.lvl then 1 else 0

/-- the levels -/
def LvAt (K : Mb) (w : World) (n : Nm) : Prop :=
  (n.lvl = true ∧ w.cell? ⟨K.C, 21, none⟩ = some (.slice (some ⟨n.lb, 0, none⟩) 1 1) ∧ w.cell? ⟨K.F, 0, none⟩ = some (.slice (some ⟨n.fb, 0, none⟩) 1 1) ∧
    w.ownsRow 0 64 3 (.slice (some ⟨n.lb, 0, none⟩) 1 1) 1 [.int .i32 0, .int .u32 n.lv, .int .i32 n.rt] ∧ w.ownsRow 0 21 1 (.slice (some ⟨n.fb, 0, none⟩) 1 1) 1 [.int .i32 0]) ∨
  (n.lvl = false ∧ w.cell? ⟨K.C, 21, none⟩ = some (.slice none 0 0) ∧ w.cell? ⟨K.F, 0, none⟩ = some (.slice none 0 0))

/-- the manager, whole, but for 'holders' and 'err' -/
structure Whole (K : Mb) (r : Rb) (B : Cp) (w : World) (n : Nm) (d : Nd) (inn : Nat → Int) : Prop where
  jn : Jn K w n.iv d inn
  c0 : w.cell? ⟨K.C, 0, none⟩ = some (.slice (some ⟨r.O, 0, none⟩) K.N K.N)
  c1 : w.cell? ⟨K.C, 1, none⟩ = some (.slice (some ⟨r.X, 0, none⟩) K.N K.N)
  c3 : w.cell? ⟨K.C, 3, none⟩ = some (.slice (some ⟨r.LO, 0, none⟩) K.N K.N)
  c15 : w.cell? ⟨K.C, 15, none⟩ = some (.slice (some ⟨r.J, 0, none⟩) K.N K.N)
  c16 : w.cell? ⟨K.C, 16, none⟩ = some (.slice (some ⟨r.LI, 0, none⟩) K.N K.N)
  c29 : w.cell? ⟨K.C, 29, none⟩ = some (.func (.func 10) #[] B.vals)
  i0 : w.cell? ⟨K.I, 0, none⟩ = some (.slice n.hp n.hn n.hc)
  i1 : w.cell? ⟨K.I, 1, none⟩ = some (.int .i32 n.cnt)
  lo : w.cell? ⟨r.LO, K.t, none⟩ = some (.int .i32 K.t)
  li : w.cell? ⟨r.LI, K.t, none⟩ = some (.int .i32 0)
  j : ∀ l, l < K.N → w.cell? ⟨r.J, l, none⟩ = some (.int .i32 l)
  x : ∀ l, l < K.N → w.cell? ⟨r.X, l, none⟩ = some (.int .i64 (l * 7 + 1))
  o0 : w.cell? ⟨r.O, K.t * 3, none⟩ = some (.int .u8 114)
  o1 : w.cell? ⟨r.O, K.t * 3 + 1, none⟩ = some (.int .i64 (K.t * 7 + 1))
  o2 : w.cell? ⟨r.O, K.t * 3 + 2, none⟩ = some (.string n.it)
  ho : HoldAt w n.hp n.hn n.hc K.N n.L n.vr
  lv : LvAt K w n

/-- the blocks lie apart -/
structure Apart (K : Mb) (r : Rb) (B : Cp) (n : Nm) : Prop where
  ap : ∀ b, b ∈ [K.S, K.D, K.M, K.I, K.F, K.A, K.G, r.O, r.X, r.LO, r.J, r.LI] → b ∉ [K.C, B.c, B.g, B.h]
  hp : ∀ a, n.hp = some a → a.block ∉ [K.C, B.c, B.g, B.h]
  lv : n.lvl = true → n.lb ∉ [K.C, B.c, B.g, B.h] ∧ n.fb ∉ [K.C, B.c, B.g, B.h] ∧ n.lb ∉ K.all ∧ n.fb ∉ K.all ∧ n.fb ≠ n.lb
  nC : K.C ∉ [B.c, B.g, B.h, B.f, B.s]

theorem Whole.drewN {K : Mb} {r : Rb} {B : Cp} {w : World} {n : Nm} {d : Nd} {inn : Nat → Int} (h : Whole K r B w n d inn) (q : Nat) : Whole K r B (w.drewN q) n d inn :=
  ⟨⟨h.jn.c4, h.jn.c7, h.jn.c10, h.jn.c20, h.jn.c22, h.jn.c23, h.jn.c24, h.jn.s, h.jn.dn, h.jn.m, h.jn.i2, h.jn.a.drewN q, h.jn.g.drewN q, h.jn.fC, h.jn.fF⟩, h.c0, h.c1, h.c3, h.c15, h.c16, h.c29, h.i0, h.i1, h.lo, h.li, h.j, h.x, h.o0, h.o1, h.o2, ⟨h.ho.p, h.ho.b, h.ho.n⟩, h.lv⟩

theorem Whole.keep {K : Mb} (hK : K.Ok) {r : Rb} {B : Cp} {w w' : World} {n : Nm} {d : Nd} {inn : Nat → Int} (h : Whole K r B w n d inn) (ha : Apart K r B n) (ho : Only [K.C, B.c, B.g, B.h] w w') (cc : ∀ j, j ≠ 30 → j ≠ 31 → w'.cell? ⟨K.C, j, none⟩ = w.cell? ⟨K.C, j, none⟩) (fC : ∀ j, w'.frozen? ⟨K.C, j, none⟩ = false) : Whole K r B w' n d inn := by
  have E : ∀ (b j : Nat) (v : Value), b ∉ [K.C, B.c, B.g, B.h] → w.cell? ⟨b, j, none⟩ = some v → w'.cell? ⟨b, j, none⟩ = some v := fun b j v hb hv => (ho.cell (p := ⟨b, j, none⟩) (World.block_lt_of_cell? _ _ hv) hb).trans hv
  have ap := ha.ap
  have ht := hK.t
  have lF : K.F < w.heap.size := by
    rcases h.lv with ⟨_, _, h1, _⟩ | ⟨_, _, h1⟩ <;> exact World.block_lt_of_cell? _ _ h1
  refine ⟨⟨(cc _ (by decide) (by decide)).trans h.jn.c4, (cc _ (by decide) (by decide)).trans h.jn.c7, (cc _ (by decide) (by decide)).trans h.jn.c10, (cc _ (by decide) (by decide)).trans h.jn.c20, (cc _ (by decide) (by decide)).trans h.jn.c22, (cc _ (by decide) (by decide)).trans h.jn.c23, (cc _ (by decide) (by decide)).trans h.jn.c24,
      E _ _ _ (ap _ (by simp)) h.jn.s, E _ _ _ (ap _ (by simp)) h.jn.dn, E _ _ _ (ap _ (by simp)) h.jn.m, E _ _ _ (ap _ (by simp)) h.jn.i2, h.jn.a.only ho (h.jn.a.lt (by omega)) (ap _ (by simp)), h.jn.g.only ho (h.jn.g.lt (by omega)) (ap _ (by simp)), fC, (ho.frozen (p := ⟨K.F, 0, none⟩) lF (ap _ (by simp))).trans h.jn.fF⟩,
    (cc _ (by decide) (by decide)).trans h.c0, (cc _ (by decide) (by decide)).trans h.c1, (cc _ (by decide) (by decide)).trans h.c3, (cc _ (by decide) (by decide)).trans h.c15, (cc _ (by decide) (by decide)).trans h.c16, (cc _ (by decide) (by decide)).trans h.c29,
    E _ _ _ (ap _ (by simp)) h.i0, E _ _ _ (ap _ (by simp)) h.i1, E _ _ _ (ap _ (by simp)) h.lo, E _ _ _ (ap _ (by simp)) h.li, fun l hl => E _ _ _ (ap _ (by simp)) (h.j l hl), fun l hl => E _ _ _ (ap _ (by simp)) (h.x l hl), E _ _ _ (ap _ (by simp)) h.o0, E _ _ _ (ap _ (by simp)) h.o1, E _ _ _ (ap _ (by simp)) h.o2, ⟨?_, h.ho.b, h.ho.n⟩, ?_⟩
  · refine h.ho.p.imp id ?_
    rintro ⟨g, e1, e2, e3, e4⟩
    have := ha.hp _ e1
    exact ⟨g, e1, e2, Nat.lt_of_lt_of_le e3 ho.size, fun j hj => ⟨E _ _ _ this (e4 j hj).1, E _ _ _ this (e4 j hj).2⟩⟩
  · rcases h.lv with ⟨h1, h2, h3, h4, h5⟩ | ⟨h1, h2, h3⟩
    · obtain ⟨a1, a2, _⟩ := ha.lv h1
      exact Or.inl ⟨h1, (cc _ (by decide) (by decide)).trans h2, E _ _ _ (ap _ (by simp)) h3, own_only h4 ho (fun p hp => by simp [Value.ownBlock] at hp; subst hp; exact a1), own_only h5 ho (fun p hp => by simp [Value.ownBlock] at hp; subst hp; exact a2)⟩
    · exact Or.inr ⟨h1, (cc _ (by decide) (by decide)).trans h2, E _ _ _ (ap _ (by simp)) h3⟩

theorem Whole.curOk {K : Mb} {r : Rb} {B : Cp} {w : World} {n : Nm} {d : Nd} {inn : Nat → Int} (h : Whole K r B w n d inn) (hcn : 0 < n.cnt → 0 < n.hn) : CurOk K.C w n.cur := by
  rcases h.lv with ⟨h1, h2, h3, h4, h5⟩ | ⟨h1, h2, h3⟩
  · refine ⟨K.F, _, h.jn.c22, h3, Or.inr ⟨n.fb, 1, !n.sees, rfl, ?_, ⟨⟨n.lb, 1, K.I, 0, n.lv, by omega, h2, ?_, ?_, h.jn.c20, _, n.cnt, h.i0, h.i1, ?_⟩⟩, ?_⟩⟩
    · rw [h5.cellAt 0 (by omega)]; rfl
    · rw [h4.cellAt 0 (by omega)]; rfl
    · rw [h4.cellAt 1 (by omega)]; rfl
    · by_cases hc : 0 < n.cnt
      · refine Or.inr ⟨hc, ?_⟩
        have hp := hcn hc
        rcases h.ho.p with ⟨_, e, _⟩ | ⟨g, e1, e2, e3, e4⟩
        · omega
        · refine ⟨g, n.hn - 1, n.hc, n.vr (n.hn - 1), ?_, by have := h.ho.n; omega, (e4 (n.hn - 1) (by omega)).2, by simp [Nm.sees, hc]⟩
          rw [e1, show n.hn - 1 + 1 = n.hn by omega]
      · exact Or.inl ⟨by omega, by simp [Nm.sees, hc]⟩
    · cases hs : n.sees <;> simp [Nm.cur, h1, hs]
  · exact ⟨K.F, _, h.jn.c22, h3, Or.inl ⟨rfl, by simp [Nm.cur, h1]⟩⟩

end Go.Proofs.Ybulkhwa

import Derived.Test.YbulkhwaWa
namespace Go.Proofs.Ybulkhwa
open Go.RowKit Go.Pool

def Nm.id (n : Nm) : Nat := if n.cur = 0 then 0 else n.ln
def Nm.tot (n : Nm) : Nat := if n.cur = 0 then 1 else n.ln + 1
def Nm.root (n : Nm) : Int := if n.cur = 0 then n.rt else -1

/-- the world behind 'wait', as the law reads it -/
structure Fin (K : Mb) (B : Cp) (w w' : World) (n : Nm) (d : Nd) (inn : Nat → Int) (rv ev : Value) (rep : Bool) : Prop where
  calls : w'.cell? ⟨B.c, 0, none⟩ = some (.int .i64 (if rep then 1 else 0))
  got : rep = true → ∃ v, ∀ j, j < 5 → w'.cell? ⟨B.g, j, none⟩ = (waitC (K.t * 7 + 1) n.it v)[j]?
  goth : rep = true → ∃ v', w'.cell? ⟨B.h, 0, none⟩ = some v' ∧ Ints w' v' (sorted (zsTo n.L K.t n.hn)) ∧ ∀ k, v'.ownBlock = some k → w.heap.size ≤ k
  err : w'.cell? ⟨K.C, 31, none⟩ = some (if rep then rv else ev)
  c22 : w'.cell? ⟨K.C, 22, none⟩ = some (.slice (some ⟨K.F, 0, none⟩) 1 1)
  c23 : w'.cell? ⟨K.C, 23, none⟩ = some (.slice (some ⟨K.A, 0, none⟩) K.N K.N)
  c24 : w'.cell? ⟨K.C, 24, none⟩ = some (.slice (some ⟨K.G, 0, none⟩) K.N K.N)
  lev : ∃ lb lc fb fc, w'.cell? ⟨K.C, 21, none⟩ = some (.slice (some ⟨lb, 0, none⟩) n.tot lc) ∧ n.id < n.tot ∧ w'.cell? ⟨lb, n.id * 3, none⟩ = some (.int .i32 0) ∧ w'.cell? ⟨lb, n.id * 3 + 1, none⟩ = some (.int .u32 (if n.cur = 0 then n.lv else n.iv)) ∧ w'.cell? ⟨lb, n.id * 3 + 2, none⟩ = some (.int .i32 (jRt K.t n.root)) ∧
    w'.cell? ⟨K.F, 0, none⟩ = some (.slice (some ⟨fb, 0, none⟩) n.tot fc) ∧ w'.cell? ⟨fb, n.id, none⟩ = some (.int .i32 n.id)
  g : Row w' K.G (K.N * 4) (nodeC (jNd d K.t K.st n.root))
  a : Row w' K.A K.N (i32s (upd inn K.t n.id))
  only : Only [K.C, K.F, K.G, K.A, B.c, B.g, B.h, n.lb] w w'

theorem Ints.lt {w : World} {v : Value} {zs : List Int} (h : Ints w v zs) : ∀ k, v.ownBlock = some k → k < w.heap.size := by
  intro k hk
  rcases h with ⟨rfl, _⟩ | ⟨g, c, rfl, hg, _⟩
  · simp [Value.ownBlock] at hk
  · simp [Value.ownBlock] at hk
    omega

theorem Only.drop {S T : List Nat} {a b : World} (h : Only S a b) (hs : ∀ x ∈ S, x < a.heap.size → x ∈ T) : Only T a b :=
  ⟨h.os, h.tape, h.output, h.size, fun k hk hn => h.block k hk (fun hm => hn (hs k hm hk))⟩

set_option maxHeartbeats 1000000 in
theorem fin_of {K : Mb} (hK : K.Ok) {r : Rb} {B : Cp} {w wR w' : World} {n : Nm} {d : Nd} {inn : Nat → Int} {rv ev : Value} {rep : Bool} {fr : Bool} {sv : Value}
    (h : Whole K r B w n d inn) (ha : Apart K r B n) (hB : B.At w fr sv) (c31 : w.cell? ⟨K.C, 31, none⟩ = some ev) (hnB : ∀ b, b ∈ [K.C, K.F, K.G, K.A] → b ∉ [B.c, B.g, B.h]) (hlB : n.lvl = true → n.lb ∉ [B.c, B.g, B.h])
    (hR : Rep K B w wR n rv rep) (hJ : Jnd K wR w' n d inn) : Fin K B w w' n d inn rv ev rep := by
  have hw : Whole K r B wR n d inn := by
    rcases hR with ⟨_, q, hW⟩ | ⟨_, q, rfl⟩
    · exact (h.drewN q).keep hK ha hW.only hW.cc hW.fC
    · exact h.drewN q
  have oR : Only [K.C, B.c, B.g, B.h] w wR := by
    rcases hR with ⟨_, q, hW⟩ | ⟨_, q, rfl⟩
    · exact ((Only.refl _ w).drewN q).trans hW.only
    · exact (Only.refl _ w).drewN q
  have sR := oR.size
  obtain ⟨gg, hgg⟩ := hB.g
  obtain ⟨vh, hvh⟩ := hB.h
  have l1 : B.c < w.heap.size := hB.c.lt (by decide)
  have l2 : B.g < w.heap.size := hgg.lt (by decide)
  have l3 : B.h < w.heap.size := hvh.lt (by decide)
  have lC : K.C < w.heap.size := World.block_lt_of_cell? _ _ h.c0
  have lF : K.F < wR.heap.size := by
    rcases hw.lv with ⟨_, _, h1, _⟩ | ⟨_, _, h1⟩ <;> exact World.block_lt_of_cell? _ _ h1
  obtain ⟨mCG, mCA, mGA, mFG, mFA, mCF, mCI, mIF⟩ := hK.mem
  -- what the join leaves alone
  have key : ∃ wT lb lc fb fc, Lev K wT n.id lb n.tot lc fb fc (if n.cur = 0 then n.lv else n.iv) n.root ∧ Joined K wT w' d inn n.id lb n.root ∧ Only [K.C, K.F] wR wT ∧ (∀ j, j ≠ 21 → wT.cell? ⟨K.C, j, none⟩ = wR.cell? ⟨K.C, j, none⟩) ∧ lb ∉ [B.c, B.g, B.h] ∧ lb ∉ K.all ∧ (lb = n.lb ∧ lb < w.heap.size ∨ wR.heap.size ≤ lb) := by
    rcases hJ with ⟨hc, hl, hj⟩ | ⟨hc, wT, lb, lc, fb, fc, hL, hj, ho, g1, g2, g3⟩
    · obtain ⟨a1, a2, a3, a4, a5⟩ := ha.lv hl
      rcases hw.lv with ⟨_, h2, h3, h4, h5⟩ | ⟨h1, _⟩
      · have e1 : n.id = 0 := by simp [Nm.id, hc]
        have e2 : n.tot = 1 := by simp [Nm.tot, hc]
        have lbw : n.lb < w.heap.size := by
          rcases h.lv with ⟨_, _, _, k4, _⟩ | ⟨k1, _⟩
          · exact (k4.lt n.lb rfl).2
          · rw [hl] at k1; cases k1
        have e3 : n.root = n.rt := by simp [Nm.root, hc]
        refine ⟨wR, n.lb, 1, n.fb, 1, ?_, ?_, Only.refl _ _, fun _ _ => rfl, hlB hl, a3, Or.inl ⟨rfl, lbw⟩⟩
        · rw [e1, e2, e3, if_pos hc]
          refine ⟨by omega, h2, ?_, ?_, ?_, fun j => h4.frozenAt j, a3, h3, ?_, a4, a5⟩
          · rw [h4.cellAt _ (by omega)]; rfl
          · rw [h4.cellAt _ (by omega)]; rfl
          · rw [h4.cellAt _ (by omega)]; rfl
          · rw [h5.cellAt _ (by omega)]; rfl
        · rw [e1, e3]; exact hj
      · rw [hl] at h1; cases h1
    · have hc' : n.cur ≠ 0 := by omega
      have e1 : n.id = n.ln := by simp [Nm.id, hc']
      have e2 : n.tot = n.ln + 1 := by simp [Nm.tot, hc']
      have e3 : n.root = -1 := by simp [Nm.root, hc']
      refine ⟨wT, lb, lc, fb, fc, ?_, ?_, ho, g3, ?_, hL.lo, Or.inr g1⟩
      · rw [e1, e2, e3, if_neg hc']; exact hL
      · rw [e1, e3]; exact hj
      · simp; omega
  obtain ⟨wT, lb, lc, fb, fc, hL, hj, oT, cT, nlb, nla, hlb⟩ := key
  have sT := oT.size
  have lbT : lb < wT.heap.size := World.block_lt_of_cell? _ _ hL.l2
  have nla' := nla
  have fo := hL.fo
  simp only [Mb.all, List.mem_cons, List.not_mem_nil, not_or, or_false] at nla' fo
  simp only [List.mem_cons, List.not_mem_nil, not_or, or_false] at nlb
  obtain ⟨b1, b2, b3⟩ := nlb
  have nB : ∀ b, b ∈ [K.C, K.F, K.G, K.A] → b ≠ B.c ∧ b ≠ B.g ∧ b ≠ B.h := fun b hb => by
    have := hnB b hb
    simpa only [List.mem_cons, List.not_mem_nil, not_or, or_false] using this
  obtain ⟨x1, x2, x3⟩ := nB K.C (by simp)
  obtain ⟨y1, y2, y3⟩ := nB K.F (by simp)
  obtain ⟨u1, u2, u3⟩ := nB K.G (by simp)
  obtain ⟨v1, v2, v3⟩ := nB K.A (by simp)
  -- a block beside those the join writes
  have E : ∀ (b j : Nat), b < wR.heap.size → b ≠ K.C → b ≠ K.F → b ≠ K.G → b ≠ lb → b ≠ K.A → w'.cell? ⟨b, j, none⟩ = wR.cell? ⟨b, j, none⟩ := fun b j hb h1 h2 h3 h4 h5 =>
    (hj.only.cell (p := ⟨b, j, none⟩) (by show b < _; omega) (by simp [h3, h4, h5])).trans (oT.cell (p := ⟨b, j, none⟩) hb (by simp [h1, h2]))
  have EC : ∀ j, w'.cell? ⟨K.C, j, none⟩ = wT.cell? ⟨K.C, j, none⟩ := fun j => hj.only.cell (p := ⟨K.C, j, none⟩) (by show K.C < _; omega) (by simp [mCG, mCA, Ne.symm nla'.1])
  have EF : ∀ j, w'.cell? ⟨K.F, j, none⟩ = wT.cell? ⟨K.F, j, none⟩ := fun j => hj.only.cell (p := ⟨K.F, j, none⟩) (by show K.F < _; omega) (by simp [mFG, mFA, Ne.symm nla'.2.2.2.2.2.1])
  have fbT : fb < wT.heap.size := World.block_lt_of_cell? _ _ hL.f1
  have cR : ∀ j, j ≠ 30 → j ≠ 31 → wR.cell? ⟨K.C, j, none⟩ = w.cell? ⟨K.C, j, none⟩ := by
    intro j h30 h31
    rcases hR with ⟨_, q, hW⟩ | ⟨_, q, rfl⟩
    · exact hW.cc j h30 h31
    · rfl
  have Bc : ∀ j, w'.cell? ⟨B.c, j, none⟩ = wR.cell? ⟨B.c, j, none⟩ := fun j => E B.c j (by omega) (Ne.symm x1) (Ne.symm y1) (Ne.symm u1) (Ne.symm b1) (Ne.symm v1)
  have Bg : ∀ j, w'.cell? ⟨B.g, j, none⟩ = wR.cell? ⟨B.g, j, none⟩ := fun j => E B.g j (by omega) (Ne.symm x2) (Ne.symm y2) (Ne.symm u2) (Ne.symm b2) (Ne.symm v2)
  have Bh : ∀ j, w'.cell? ⟨B.h, j, none⟩ = wR.cell? ⟨B.h, j, none⟩ := fun j => E B.h j (by omega) (Ne.symm x3) (Ne.symm y3) (Ne.symm u3) (Ne.symm b3) (Ne.symm v3)
  refine ⟨?_, ?_, ?_, ?_, ?_, ?_, ?_, ⟨lb, lc, fb, fc, ?_, hL.lt, ?_, ?_, hj.l2, ?_, ?_⟩, hj.g, hj.a, ?_⟩
  · rw [Bc]
    rcases hR with ⟨rfl, q, hW⟩ | ⟨rfl, q, rfl⟩
    · exact hW.c
    · exact hB.c.cell 0 (by decide)
  · intro hr
    rcases hR with ⟨_, q, hW⟩ | ⟨hf, _⟩
    · obtain ⟨v, hv⟩ := hW.g
      exact ⟨v, fun j hj => (Bg j).trans (hv j hj)⟩
    · rw [hr] at hf; cases hf
  · intro hr
    rcases hR with ⟨_, q, hW⟩ | ⟨hf, _⟩
    · obtain ⟨v', e1, e2, e3⟩ := hW.h
      refine ⟨v', (Bh 0).trans e1, e2.only (S := [K.C, K.F, K.G, lb, K.A]) ((oT.mono (by simp)).trans (hj.only.mono (by simp))) ?_, e3⟩
      intro k hk
      have k1 : w.heap.size ≤ k := e3 k hk
      have k2 := e2.lt k hk
      have k3 : K.G < w.heap.size := h.jn.g.lt (by have := hK.t; omega)
      have k4 : K.A < w.heap.size := h.jn.a.lt (by have := hK.t; omega)
      have k5 : K.F < w.heap.size := by
        rcases h.lv with ⟨_, _, h1, _⟩ | ⟨_, _, h1⟩ <;> exact World.block_lt_of_cell? _ _ h1
      have big : ∀ b, b < w.heap.size → k ≠ b := fun b hb => Nat.ne_of_gt (Nat.lt_of_lt_of_le hb k1)
      have k6 : k ≠ lb := by
        rcases hlb with ⟨_, hx⟩ | hx
        · exact big lb hx
        · exact Nat.ne_of_lt (Nat.lt_of_lt_of_le k2 hx)
      simp only [List.mem_cons, List.not_mem_nil, not_or, or_false]
      exact ⟨big _ lC, big _ k5, big _ k3, k6, big _ k4⟩
    · rw [hr] at hf; cases hf
  · rw [EC, cT _ (by decide)]
    rcases hR with ⟨rfl, q, hW⟩ | ⟨rfl, q, rfl⟩
    · exact hW.e
    · exact c31
  · rw [EC, cT _ (by decide)]; exact hw.jn.c22
  · rw [EC, cT _ (by decide)]; exact hw.jn.c23
  · rw [EC, cT _ (by decide)]; exact hw.jn.c24
  · rw [EC]; exact hL.c21
  · rw [hj.l01 _ (by omega)]; exact hL.l0
  · rw [hj.l01 _ (by omega)]; exact hL.l1
  · rw [EF, show n.tot = n.id + 1 by unfold Nm.tot Nm.id; split <;> rfl]; exact hL.f0
  · exact (hj.only.cell (p := ⟨fb, n.id, none⟩) fbT (by simp [fo.2.2.2.2.2.2, hL.ne])).trans hL.f1
  · have o1 : Only [K.C, K.F, K.G, K.A, B.c, B.g, B.h, n.lb, lb] w wR := oR.mono (by simp)
    have o2 : Only [K.C, K.F, K.G, K.A, B.c, B.g, B.h, n.lb, lb] wR wT := oT.mono (by simp)
    have o3 : Only [K.C, K.F, K.G, K.A, B.c, B.g, B.h, n.lb, lb] wT w' := hj.only.mono (by simp)
    refine ((o1.trans o2).trans o3).drop ?_
    intro x hx hlt
    simp only [List.mem_cons, List.not_mem_nil, or_false] at hx ⊢
    have : x = lb → x = n.lb := by
      intro e
      rcases hlb with ⟨e1, _⟩ | hx
      · exact e.trans e1
      · exact absurd (Nat.lt_of_lt_of_le hlt (Nat.le_trans sR (e ▸ hx))) (Nat.lt_irrefl _)
    rcases hx with h | h | h | h | h | h | h | h | h
    all_goals first | (have := this h; simp [this]; done) | simp [h]

end Go.Proofs.Ybulkhwa

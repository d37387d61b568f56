import Derived.Test.YbulkhwaLaw2
namespace Go.Proofs.Ybulkhwa
open Go.RowKit Go.Pool

section
variable {K : Bk} {S : Sch} {M1 M2 M3 : Nat} {w0 wr w1 : World} {A B T1 T2 : Int} {s : St} {V V1 : Nat → Value}

theorem Tab.same {s' : St} (h : Tab M1 M2 M3 w0 s w1) (e1 : s'.hd = s.hd) (e2 : s'.la = s.la) (e3 : s'.rl = s.rl) : Tab M1 M2 M3 w0 s' w1 :=
  ⟨e1 ▸ h.m1, e2 ▸ h.m2, e3 ▸ h.m3, h.only⟩

theorem Tab.set1 (h : Tab M1 M2 M3 w0 s w1) (e : Env K M1 M2 M3 w0) (u : Nat) (hu : u < 9) (v : Int) : Tab M1 M2 M3 w0 { s with hd := upd s.hd u v } (w1.setCell ⟨M1, u, none⟩ (.int .u8 v)) :=
  ⟨h.m1.setU8 u hu v, h.m2.other (p := ⟨M1, u, none⟩) e.n12 _, h.m3.other (p := ⟨M1, u, none⟩) e.n13 _, h.only.setNew (p := ⟨M1, u, none⟩) e.l1 _⟩
theorem Tab.set2 (h : Tab M1 M2 M3 w0 s w1) (e : Env K M1 M2 M3 w0) (u : Nat) (hu : u < 9) (v : Int) : Tab M1 M2 M3 w0 { s with la := upd s.la u v } (w1.setCell ⟨M2, u, none⟩ (.int .i32 v)) :=
  ⟨h.m1.other (p := ⟨M2, u, none⟩) e.n12.symm _, h.m2.setI32 u hu v, h.m3.other (p := ⟨M2, u, none⟩) e.n23 _, h.only.setNew (p := ⟨M2, u, none⟩) e.l2 _⟩
theorem Tab.set3 (h : Tab M1 M2 M3 w0 s w1) (e : Env K M1 M2 M3 w0) (t : Nat) (ht : t < 3) (v : Int) : Tab M1 M2 M3 w0 { s with rl := upd s.rl t v } (w1.setCell ⟨M3, t, none⟩ (.int .i32 v)) :=
  ⟨h.m1.other (p := ⟨M3, t, none⟩) e.n13.symm _, h.m2.other (p := ⟨M3, t, none⟩) e.n23.symm _, h.m3.setI32 t ht v, h.only.setNew (p := ⟨M3, t, none⟩) e.l3 _⟩

theorem Lp2.read (h : Lp2 K S M1 M2 M3 w0 A B T1 T2 s V wr) (need : Int) (u k : Nat) (hc : CkOk K S V1 w1 (readS s u k need)) (hg : Good K.n (readS s u k need)) (ht : Tab M1 M2 M3 w0 s w1) (hk : k < K.n) (B' : Int) (hB : B' = if B < 0 ∧ s.hd u < need then (k : Int) else B) :
    Lp2 K S M1 M2 M3 w0 A B' T1 T2 (readS s u k need) V1 w1 := by
  have hn := h.wf.neg
  by_cases e : s.wf = [] ∧ s.hd u < need
  · have e' : B < 0 ∧ s.hd u < need := ⟨hn.2 e.1, e.2⟩
    rw [if_pos e'] at hB
    have er : readS s u k need = { s with wf := [k] } := if_pos e
    rw [er] at hc hg ⊢
    exact ⟨hc, hg, ht.same rfl rfl rfl, h.lg, Or.inr ⟨k, rfl, hB, hk⟩, h.tp⟩
  · have e' : ¬ (B < 0 ∧ s.hd u < need) := fun x => e ⟨hn.1 x.1, x.2⟩
    rw [if_neg e'] at hB
    have er : readS s u k need = s := if_neg e
    rw [er] at hc hg ⊢
    rw [hB]
    exact ⟨hc, hg, ht, h.lg, h.wf, h.tp⟩

theorem Lp2.unl (h : Lp2 K S M1 M2 M3 w0 A B T1 T2 s V wr) (e : Env K M1 M2 M3 w0) (u t k : Nat) (hu : u < 9) (ht3 : t < 3) (hc : CkOk K S V1 w1 (unlS s u t k)) (hg : Good K.n (unlS s u t k)) (ht : Tab M1 M2 M3 w0 s w1) (hk : k < K.n)
    (A' : Int) (hA : A' = if A < 0 ∧ s.hd u = 0 then (k : Int) else A) (w2 : World) (hw : w2 = (if s.rl t < 0 then w1.setCell ⟨M3, t, none⟩ (.int .i32 k) else w1).setCell ⟨M1, u, none⟩ (.int .u8 0)) :
    Lp2 K S M1 M2 M3 w0 A' B T1 T2 (unlS s u t k) V1 w2 := by
  have hn := h.lg.neg
  have E := unl_eq s u t k
  generalize unlS s u t k = s' at *
  have hlg : One K.n s'.lg A' := by
    rw [E.lg]
    by_cases e1 : s.lg = [] ∧ s.hd u = 0
    · rw [if_pos e1]
      rw [if_pos ⟨hn.2 e1.1, e1.2⟩] at hA
      exact Or.inr ⟨k, rfl, hA, hk⟩
    · rw [if_neg e1]
      rw [if_neg (fun x => e1 ⟨hn.1 x.1, x.2⟩)] at hA
      rw [hA]
      exact h.lg
  refine ⟨?_, hg, ?_, hlg, E.wf ▸ h.wf, E.tp ▸ h.tp⟩
  · rw [hw]
    split
    · exact (hc.far (p := ⟨M3, t, none⟩) e.o3 e.h3 _).far (p := ⟨M1, u, none⟩) e.o1 e.h1 _
    · exact hc.far (p := ⟨M1, u, none⟩) e.o1 e.h1 _
  · rw [hw]
    have er := E.rl
    split
    · rename_i hr
      rw [if_pos hr] at er
      exact ((ht.set3 e t ht3 k).set1 e u hu 0).same E.hd E.la er
    · rename_i hr
      rw [if_neg hr] at er
      exact (ht.set1 e u hu 0).same E.hd E.la er

theorem Lp2.lock (h : Lp2 K S M1 M2 M3 w0 A B T1 T2 s V wr) (e : Env K M1 M2 M3 w0) (t it k : Nat) (want : Int) (hw : want = 1 ∨ want = 2) (ht3 : t < 3) (hi3 : it < 3) (hc : CkOk K S V1 w1 (lockS s (t * 3 + it) t k want)) (hg : Good K.n (lockS s (t * 3 + it) t k want)) (ht : Tab M1 M2 M3 w0 s w1) (hk : k < K.n)
    (A' T1' T2' : Int) (hA : A' = if A < 0 ∧ allowF s.hd t it want = false then (k : Int) else A) (hT1 : T1' = if T1 < 0 ∧ 0 ≤ s.rl t then s.rl t else T1) (hT2 : T2' = if T1 < 0 ∧ 0 ≤ s.rl t then (k : Int) else T2)
    (w2 w3 : World) (hw2 : w2 = if s.hd (t * 3 + it) = 0 then w1.setCell ⟨M2, t * 3 + it, none⟩ (.int .i32 k) else w1) (hw3 : w3 = if s.hd (t * 3 + it) < want then w2.setCell ⟨M1, t * 3 + it, none⟩ (.int .u8 want) else w2) :
    Lp2 K S M1 M2 M3 w0 A' B T1' T2' (lockS s (t * 3 + it) t k want) V1 w3 := by
  have hn := h.lg.neg
  have hn2 := h.tp.neg
  have hu : t * 3 + it < 9 := by omega
  have E := lock_eq s (t * 3 + it) t k want
  have hr : refu s (t * 3 + it) want = true ↔ (A < 0 ∧ allowF s.hd t it want = false) := by
    have em : (t * 3 + it) % 3 = it := by omega
    unfold refu
    rw [em]
    by_cases hl : s.lg = []
    · have q := allow_eq t it want ht3 hi3 h.good.hd (h.good.it hl it hi3) hw
      rw [← q]
      simp [hl, hn.2 hl]
    · have : ¬ A < 0 := fun x => hl (hn.1 x)
      simp [hl, this]
  generalize lockS s (t * 3 + it) t k want = s' at *
  have hlg : One K.n s'.lg A' := by
    rw [E.lg]
    by_cases e1 : refu s (t * 3 + it) want = true
    · rw [if_pos e1]
      rw [if_pos (hr.1 e1)] at hA
      exact Or.inr ⟨k, rfl, hA, hk⟩
    · rw [if_neg e1]
      rw [if_neg (fun x => e1 (hr.2 x))] at hA
      rw [hA]
      exact h.lg
  have htp : Two K.n s'.tp T1' T2' := by
    rw [E.tp]
    by_cases e1 : s.tp = [] ∧ 0 ≤ s.rl t
    · have e2 : T1 < 0 ∧ 0 ≤ s.rl t := ⟨hn2.2 e1.1, e1.2⟩
      rw [if_pos e1]
      rw [if_pos e2] at hT1 hT2
      have := h.good.rl t ht3
      exact Or.inr ⟨(s.rl t).toNat, k, rfl, by omega, hT2, by omega, hk⟩
    · have e2 : ¬ (T1 < 0 ∧ 0 ≤ s.rl t) := fun x => e1 ⟨hn2.1 x.1, x.2⟩
      rw [if_neg e1]
      rw [if_neg e2] at hT1 hT2
      rw [hT1, hT2]
      exact h.tp
  have hc2 : CkOk K S V1 w2 s' := by
    rw [hw2]
    split
    · exact hc.far (p := ⟨M2, t * 3 + it, none⟩) e.o2 e.h2 _
    · exact hc
  have ht2 : Tab M1 M2 M3 w0 { s with la := s'.la } w2 := by
    rw [hw2, E.la]
    split
    · exact ht.set2 e _ hu k
    · exact ht
  refine ⟨?_, hg, ?_, hlg, E.wf ▸ h.wf, htp⟩
  · rw [hw3]
    split
    · exact hc2.far (p := ⟨M1, t * 3 + it, none⟩) e.o1 e.h1 _
    · exact hc2
  · rw [hw3]
    have eh := E.hd
    split
    · rename_i hlt
      rw [if_pos hlt] at eh
      exact (ht2.set1 e _ hu want).same eh rfl E.rl
    · rename_i hlt
      rw [if_neg hlt, upd_self] at eh
      exact ht2.same eh rfl E.rl
end

theorem averd_one {K : Bk} {S : Sch} {w : World} {ps : List Nat} {o a : Value} {A : Int} (hv : VOk K S w o a ps) (hP : One K.n ps A) (hO : Row w K.O (3 * K.n) (opCells S.kd S.tx S.nm)) (hn : K.n ≤ 1024) (N n : Nat) (e1 : K.O = N) (e2 : K.n = n) :
    Calls Yba.prog 8 #[.agg #[o, a], .slice (some ⟨N, 0, none⟩) n n, .int .i32 A, .int .i32 (-1)] w fun e w' => e = .returned (.bool true) ∧ Only [] w w' := by
  subst e1 e2
  rcases hP with ⟨rfl, rfl⟩ | ⟨p, rfl, rfl, hp⟩
  · obtain ⟨rfl, rfl⟩ := VOk.nil_of hv
    exact averd0 (-1) (-1) w (by omega)
  · exact averd1 _ _ w [p] o a hv (Or.inl ⟨p, rfl, rfl, rfl, hp⟩) hO hn

theorem averd_two {K : Bk} {S : Sch} {w : World} {ps : List Nat} {o a : Value} {A B : Int} (hv : VOk K S w o a ps) (hP : Two K.n ps A B) (hO : Row w K.O (3 * K.n) (opCells S.kd S.tx S.nm)) (hn : K.n ≤ 1024) (N n : Nat) (e1 : K.O = N) (e2 : K.n = n) :
    Calls Yba.prog 8 #[.agg #[o, a], .slice (some ⟨N, 0, none⟩) n n, .int .i32 A, .int .i32 B] w fun e w' => e = .returned (.bool true) ∧ Only [] w w' := by
  subst e1 e2
  rcases hP with ⟨rfl, rfl, rfl⟩ | ⟨p, q, rfl, rfl, rfl, hp, hq⟩
  · obtain ⟨rfl, rfl⟩ := VOk.nil_of hv
    exact averd0 (-1) (-1) w (by omega)
  · exact averd1 _ _ w [p, q] o a hv (Or.inr ⟨p, q, rfl, rfl, rfl, hp, hq⟩) hO hn

/-- the last two loops' facts -/
structure Fin9 (K : Bk) (M1 M2 M3 : Nat) (s : St) (w : World) : Prop where
  h10 : w.cell? ⟨K.C, 10, none⟩ = some (.slice (some ⟨K.H, 0, none⟩) 9 9)
  h11 : w.cell? ⟨K.C, 11, none⟩ = some (.slice (some ⟨K.L, 0, none⟩) 9 9)
  h14 : w.cell? ⟨K.C, 14, none⟩ = some (.slice (some ⟨K.R, 0, none⟩) 3 3)
  H : ∀ u, u < 9 → w.cell? ⟨K.H, u, none⟩ = some (.int .u8 (s.hd u))
  L : ∀ u, u < 9 → w.cell? ⟨K.L, u, none⟩ = some (.int .i32 (s.la u))
  R : ∀ t, t < 3 → w.cell? ⟨K.R, t, none⟩ = some (.int .i32 (s.rl t))
  m1 : ∀ u, u < 9 → w.cell? ⟨M1, u, none⟩ = some (.int .u8 (s.hd u))
  m2 : ∀ u, u < 9 → w.cell? ⟨M2, u, none⟩ = some (.int .i32 (s.la u))
  m3 : ∀ t, t < 3 → w.cell? ⟨M3, t, none⟩ = some (.int .i32 (s.rl t))

theorem Lp2.fin {K : Bk} {S : Sch} {M1 M2 M3 : Nat} {w0 wr w' : World} {A B T1 T2 : Int} {s : St} {V : Nat → Value} (h : Lp2 K S M1 M2 M3 w0 A B T1 T2 s V wr) (e : Env K M1 M2 M3 w0) (ho : Only [] wr w') : Fin9 K M1 M2 M3 s w' := by
  have c := h.ck.only e.ok ho
  have hs := h.ck.size
  exact ⟨c.C.cell 10 (by omega), c.C.cell 11 (by omega), c.C.cell 14 (by omega), c.H.cell, c.L.cell, c.R.cell, (h.tab.m1.only ho (Nat.lt_of_lt_of_le e.h1 hs) (by simp)).cell, (h.tab.m2.only ho (Nat.lt_of_lt_of_le e.h2 hs) (by simp)).cell, (h.tab.m3.only ho (Nat.lt_of_lt_of_le e.h3 hs) (by simp)).cell⟩

end Go.Proofs.Ybulkhwa

import Derived.Test.YbulkhwaJ5
import Derived.Test.YbulkhwaJ7
import Derived.Deep.CutBlock
namespace Go.Proofs.Ybulkhwa
open Go.RowKit Go.Pool

/-- The manager's blocks, as 'join' meets them: N transactions; t: the one that joins; st: its stamp. -/
structure Mb where
  C : Nat
  S : Nat
  D : Nat
  M : Nat
  I : Nat
  F : Nat
  A : Nat
  G : Nat
  N : Nat
  t : Nat
  st : Nat

def Mb.all (K : Mb) : List Nat := [K.C, K.S, K.D, K.M, K.I, K.F, K.A, K.G]

structure Mb.Ok (K : Mb) : Prop where
  nd : K.all.Nodup
  t : K.t < K.N
  N : K.N ≤ 4
  st : K.st < 65536

/-- what 'join' reads of the manager beside the levels -/
structure Jn (K : Mb) (w : World) (iv : Int) (d : Nd) (inn : Nat → Int) : Prop where
  c4 : w.cell? ⟨K.C, 4, none⟩ = some (.slice (some ⟨K.S, 0, none⟩) (K.N + 1) (K.N + 1))
  c7 : w.cell? ⟨K.C, 7, none⟩ = some (.slice (some ⟨K.D, 0, none⟩) K.N K.N)
  c10 : w.cell? ⟨K.C, 10, none⟩ = some (.slice (some ⟨K.M, 0, none⟩) K.N K.N)
  c20 : w.cell? ⟨K.C, 20, none⟩ = some (.slice (some ⟨K.I, 0, none⟩) 1 1)
  c22 : w.cell? ⟨K.C, 22, none⟩ = some (.slice (some ⟨K.F, 0, none⟩) 1 1)
  c23 : w.cell? ⟨K.C, 23, none⟩ = some (.slice (some ⟨K.A, 0, none⟩) K.N K.N)
  c24 : w.cell? ⟨K.C, 24, none⟩ = some (.slice (some ⟨K.G, 0, none⟩) K.N K.N)
  s : w.cell? ⟨K.S, K.t, none⟩ = some (.int .i32 K.t)
  dn : w.cell? ⟨K.D, K.t, none⟩ = some (.int .i32 0)
  m : w.cell? ⟨K.M, K.t, none⟩ = some (.int .i32 K.st)
  i2 : w.cell? ⟨K.I, 2, none⟩ = some (.int .u32 iv)
  a : Row w K.A K.N (i32s inn)
  g : Row w K.G (K.N * 4) (nodeC d)
  fC : ∀ j, w.frozen? ⟨K.C, j, none⟩ = false
  fF : w.frozen? ⟨K.F, 0, none⟩ = false

/-- the level that t joins -/
structure Lev (K : Mb) (w : World) (id lb ln lc fb fc : Nat) (vr rt : Int) : Prop where
  lt : id < ln
  c21 : w.cell? ⟨K.C, 21, none⟩ = some (.slice (some ⟨lb, 0, none⟩) ln lc)
  l0 : w.cell? ⟨lb, id * 3, none⟩ = some (.int .i32 0)
  l1 : w.cell? ⟨lb, id * 3 + 1, none⟩ = some (.int .u32 vr)
  l2 : w.cell? ⟨lb, id * 3 + 2, none⟩ = some (.int .i32 rt)
  fl : ∀ j, w.frozen? ⟨lb, j, none⟩ = false
  lo : lb ∉ K.all
  f0 : w.cell? ⟨K.F, 0, none⟩ = some (.slice (some ⟨fb, 0, none⟩) (id + 1) fc)
  f1 : w.cell? ⟨fb, id, none⟩ = some (.int .i32 id)
  fo : fb ∉ K.all
  ne : fb ≠ lb

/-- the nodes behind the join, and the level's root -/
def jNd (d : Nd) (t st : Nat) (rt : Int) : Nd := if rt < 0 then ({ d with a := upd d.a t (arrF st t) } : Nd).leaf t else ({ d with a := upd d.a t (arrF st t) } : Nd).below rt.toNat t
def jRt (t : Nat) (rt : Int) : Int := if rt < 0 then t else rt

/-- the root that t may join: none, or one leaf u -/
def RtOk (K : Mb) (d : Nd) (rt : Int) : Prop := rt < 0 ∨ ∃ u : Nat, rt = (u : Int) ∧ u < K.N ∧ u ≠ K.t ∧ d.l u = -1 ∧ d.r u = -1

/-- what 'join' leaves, from the world wx in which the level stands -/
structure Joined (K : Mb) (wx w' : World) (d : Nd) (inn : Nat → Int) (id lb : Nat) (rt : Int) : Prop where
  g : Row w' K.G (K.N * 4) (nodeC (jNd d K.t K.st rt))
  a : Row w' K.A K.N (i32s (upd inn K.t id))
  l2 : w'.cell? ⟨lb, id * 3 + 2, none⟩ = some (.int .i32 (jRt K.t rt))
  l01 : ∀ j, j ≠ id * 3 + 2 → w'.cell? ⟨lb, j, none⟩ = wx.cell? ⟨lb, j, none⟩
  only : Only [K.G, lb, K.A] wx w'

theorem insert_join {K : Mb} (hK : K.Ok) {w : World} {d : Nd} {rt : Int} (hCG : K.C ≠ K.G) (c24 : w.cell? ⟨K.C, 24, none⟩ = some (.slice (some ⟨K.G, 0, none⟩) K.N K.N)) (hG : Row w K.G (K.N * 4) (nodeC { d with a := upd d.a K.t (arrF K.st K.t) })) (hr : RtOk K d rt) :
    Calls Yba.prog 25 #[.pointer (some ⟨K.C, 0, none⟩), .int .i32 rt, .int .i32 K.t] w fun e w' => e = .returned (.int .i32 (jRt K.t rt)) ∧ Row w' K.G (K.N * 4) (nodeC (jNd d K.t K.st rt)) ∧ Only [K.G] w w' := by
  by_cases hn : rt < 0
  · rw [jNd, if_pos hn, jRt, if_pos hn]
    exact insert_neg K.C K.G K.N K.t rt _ w hn hK.t c24 hG
  · rw [jNd, if_neg hn, jRt, if_neg hn]
    rcases hr with hr | ⟨u, rfl, hu, hne, h1, h2⟩
    · exact absurd hr hn
    · exact insert_at K.C K.G K.N K.t u _ w hK.t hu hne hCG c24 hG h1 h2

theorem Mb.Ok.mem {K : Mb} (hK : K.Ok) : K.C ≠ K.G ∧ K.C ≠ K.A ∧ K.G ≠ K.A ∧ K.F ≠ K.G ∧ K.F ≠ K.A ∧ K.C ≠ K.F ∧ K.C ≠ K.I ∧ K.I ≠ K.F := by
  have := hK.nd
  simp only [Mb.all, List.nodup_cons, List.mem_cons, List.not_mem_nil, not_or, or_false] at this
  obtain ⟨h1, h2, h3, h4, h5, h6, h7, _⟩ := this
  exact ⟨h1.2.2.2.2.2.2, h1.2.2.2.2.2.1, fun e => h7 e.symm, h6.2, h6.1, h1.2.2.2.2.1, h1.2.2.2.1, h5.1⟩

set_option maxRecDepth 100000 in
set_option maxHeartbeats 2000000 in
theorem join_old (K : Mb) (hK : K.Ok) (w : World) (iv : Int) (d : Nd) (inn : Nat → Int) (h : Jn K w iv d inn) (hc : CurOk K.C w 0) (lb lc fb fc : Nat) (vr rt : Int) (hl : Lev K w 0 lb 1 lc fb fc vr rt) (hr : RtOk K d rt) :
    Calls Yba.prog 20 #[.pointer (some ⟨K.C, 0, none⟩), .int .i32 K.t, .int .i32 0] w fun e w' => e = .returned (.tuple #[]) ∧ Joined K w w' d inn 0 lb rt := by
  have HJ : Hid (Jn K w iv d inn) := h
  have HC : Hid (CurOk K.C w 0) := hc
  have HL : Hid (Lev K w 0 lb 1 lc fb fc vr rt) := hl
  have HR : Hid (RtOk K d rt) := hr
  have ht := hK.t
  clear h hc hl hr
  go_enter Yba.func20, Yba.ntmps20
  go_wp2_with fail
  refine (current_any _ _ _ HC.out).mono ?_
  rintro e w1 ⟨rfl, q, rfl⟩
  go_wp2_with fail
  have hCG : K.C ≠ K.G := by
    have := hK.nd
    simp only [Mb.all, List.nodup_cons, List.mem_cons, List.not_mem_nil, not_or, or_false] at this
    exact this.1.2.2.2.2.2.2
  obtain ⟨wT, hwT⟩ : ∃ x, x = w := ⟨_, rfl⟩
  subst hwT
  refine r6 K.C K.G K.N K.t (arrF K.st K.t) ht (by kernel_rfl) (by kernel_rfl) (by kernel_rfl) (by kernel_rfl) (by kernel_rfl) rfl rfl
    (fun k w' => (k ≤ 1 ∧ ∃ q, w' = wT.drewN q) ∨ (k = 2 ∧ ∃ q, w' = (wT.drewN q).setCell ⟨K.G, K.t * 4 + 2, none⟩ (.int .i64 (arrF K.st K.t)))) (Or.inl ⟨by omega, q + 1, rfl⟩) ?_ ?_ ?_ ?_
  · rintro k w' (⟨_, q', rfl⟩ | ⟨_, q', rfl⟩)
    · exact HJ.out.c24
    · rw [World.cell?_setCell_other _ _ _ _ (by intro hx; injection hx; omega)]; exact HJ.out.c24
  · rintro w' (⟨_, q', rfl⟩ | ⟨h, _⟩)
    · refine (arrival_any K.C K.S K.D K.M K.N K.t K.st (wT.drewN q') ht hK.N hK.st HJ.out.c4 HJ.out.c7 HJ.out.c10 HJ.out.s HJ.out.dn HJ.out.m).mono ?_
      rintro e w'' ⟨rfl, q'', rfl⟩
      exact ⟨rfl, Or.inl ⟨by omega, q' + q'', by rw [World.drewN_drewN]⟩⟩
    · cases h
  · rintro w' (⟨_, q', rfl⟩ | ⟨h, _⟩)
    · exact ⟨HJ.out.g.frozen _, ⟨_, (HJ.out.g.nd K.t ht).2.2.1⟩, Or.inr ⟨rfl, q', rfl⟩⟩
    · cases h
  · rintro x w' (⟨h, _⟩ | ⟨_, q', rfl⟩)
    · omega
    · refine lay_of_moves (P := Yba.prog) (ops := (movesOf DJ6 x).toArray) x DJ6 _ _ ?_
      simp only [movesOf, DJ6, List.map_cons, List.map_nil]
      go_wp2_with fail
      obtain ⟨wS, hwS⟩ : ∃ x, x = (wT.drewN q').setCell ⟨K.G, K.t * 4 + 2, none⟩ (.int .i64 (arrF K.st K.t)) := ⟨_, rfl⟩
      rw [← hwS]
      have oS : Only [K.G] wT wS := by rw [hwS]; exact ((Only.refl _ wT).drewN q').setCell (by simp) _
      have gS : Row wS K.G (K.N * 4) (nodeC { d with a := upd d.a K.t (arrF K.st K.t) }) := by rw [hwS]; exact Row.nd2 (HJ.out.g.drewN q') K.t ht _
      have c24S : wS.cell? ⟨K.C, 24, none⟩ = some (.slice (some ⟨K.G, 0, none⟩) K.N K.N) := by
        rw [hwS, World.cell?_setCell_other _ _ _ _ (by intro hx; injection hx; omega)]; exact HJ.out.c24
      clear hwS
      have HS : Hid (Only [K.G] wT wS) := oS
      have HG : Hid (Row wS K.G (K.N * 4) (nodeC { d with a := upd d.a K.t (arrF K.st K.t) })) := gS
      have HD : Hid (wS.cell? ⟨K.C, 24, none⟩ = some (.slice (some ⟨K.G, 0, none⟩) K.N K.N)) := c24S
      clear oS gS c24S
      have hCL : K.C ≠ lb := fun e => HL.out.lo (by rw [← e]; simp [Mb.all])
      have hGL : lb ≠ K.G := fun e => HL.out.lo (by rw [e]; simp [Mb.all])
      have hAL : lb ≠ K.A := fun e => HL.out.lo (by rw [e]; simp [Mb.all])
      obtain ⟨mCG, mCA, mGA, _⟩ := hK.mem
      have lC : K.C < wT.heap.size := World.block_lt_of_cell? _ _ HJ.out.c24
      have lB : lb < wT.heap.size := World.block_lt_of_cell? _ _ HL.out.l2
      have lA : K.A < wT.heap.size := World.block_lt_of_cell? _ _ (HJ.out.a.cell K.t ht)
      have lS : wT.heap.size ≤ wS.heap.size := HS.out.size
      refine r7 K.C lb 1 lc 0 K.t rt (jRt K.t rt) HL.out.lt (by kernel_rfl) (by kernel_rfl) (by kernel_rfl) (by kernel_rfl) (by kernel_rfl) (by kernel_rfl) rfl rfl rfl
        (fun k w' => (k = 0 ∧ ∃ q, w' = wS.drewN q) ∨ (k = 1 ∧ Row w' K.G (K.N * 4) (nodeC (jNd d K.t K.st rt)) ∧ Only [K.G] wS w') ∨ (k = 2 ∧ ∃ w1, Row w1 K.G (K.N * 4) (nodeC (jNd d K.t K.st rt)) ∧ Only [K.G] wS w1 ∧ w' = w1.setCell ⟨lb, 0 * 3 + 2, none⟩ (.int .i32 (jRt K.t rt))))
        (Or.inl ⟨rfl, 1, rfl⟩) ?_ ?_ ?_ ?_ ?_
      · have hS : wS.cell? ⟨K.C, 21, none⟩ = some (.slice (some ⟨lb, 0, none⟩) 1 lc) := (HS.out.cell (p := ⟨K.C, 21, none⟩) lC (by simpa using mCG)).trans HL.out.c21
        rintro k w' (⟨_, q, rfl⟩ | ⟨_, _, h2⟩ | ⟨_, w1, _, h2, rfl⟩)
        · exact hS
        · exact (h2.cell (p := ⟨K.C, 21, none⟩) (by show K.C < _; omega) (by simpa using mCG)).trans hS
        · rw [World.cell?_setCell_other _ _ _ _ (by intro hx; injection hx; omega)]
          exact (h2.cell (p := ⟨K.C, 21, none⟩) (by show K.C < _; omega) (by simpa using mCG)).trans hS
      · rintro w' (⟨_, q, rfl⟩ | ⟨h, _⟩ | ⟨h, _⟩)
        · exact (HS.out.cell (p := ⟨lb, 0 * 3 + 2, none⟩) lB (by simpa using hGL)).trans HL.out.l2
        · cases h
        · cases h
      · rintro w' (⟨_, q, rfl⟩ | ⟨h, _⟩ | ⟨h, _⟩)
        · refine (insert_join hK (w := wS.drewN q) mCG HD.out (HG.out.drewN q) HR.out).mono ?_
          rintro e w'' ⟨rfl, h1, h2⟩
          exact ⟨rfl, Or.inr (Or.inl ⟨rfl, h1, ((Only.refl _ wS).drewN q).trans h2⟩)⟩
        · cases h
        · cases h
      · rintro w' (⟨h, _⟩ | ⟨_, h1, h2⟩ | ⟨h, _⟩)
        · cases h
        · refine ⟨?_, ⟨.int .i32 rt, ?_⟩, Or.inr (Or.inr ⟨rfl, w', h1, h2, rfl⟩)⟩
          · exact ((h2.frozen (p := ⟨lb, 0 * 3 + 2, none⟩) (by show lb < _; omega) (by simpa using hGL)).trans (HS.out.frozen (p := ⟨lb, 0 * 3 + 2, none⟩) lB (by simpa using hGL))).trans (HL.out.fl _)
          · exact ((h2.cell (p := ⟨lb, 0 * 3 + 2, none⟩) (by show lb < _; omega) (by simpa using hGL)).trans (HS.out.cell (p := ⟨lb, 0 * 3 + 2, none⟩) lB (by simpa using hGL))).trans HL.out.l2
        · cases h
      · rintro x w' (⟨h, _⟩ | ⟨h, _⟩ | ⟨_, w1, h1, h2, rfl⟩)
        · cases h
        · cases h
        · refine lay_of_moves (P := Yba.prog) (ops := (movesOf DJ7 x).toArray) x DJ7 _ _ ?_
          simp only [movesOf, DJ7, List.map_cons, List.map_nil]
          have o1 : Only [K.G] wT w1 := HS.out.trans h2
          have c23 : (w1.setCell ⟨lb, 0 * 3 + 2, none⟩ (.int .i32 (jRt K.t rt))).cell? ⟨K.C, 23, none⟩ = some (.slice (some ⟨K.A, 0, none⟩) K.N K.N) := by
            rw [World.cell?_setCell_other _ _ _ _ (by intro hx; injection hx; omega)]
            exact (o1.cell (p := ⟨K.C, 23, none⟩) lC (by simpa using mCG)).trans HJ.out.c23
          have rA : Row (w1.setCell ⟨lb, 0 * 3 + 2, none⟩ (.int .i32 (jRt K.t rt))) K.A K.N (i32s inn) := (HJ.out.a.only o1 lA (by simpa using fun e => mGA e.symm)).other hAL _
          have rAt := rA.cell K.t ht
          have rAf := rA.frozen K.t
          have HO : Hid (Only [K.G] wT w1) := o1
          have HA : Hid (Row (w1.setCell ⟨lb, 0 * 3 + 2, none⟩ (.int .i32 (jRt K.t rt))) K.A K.N (i32s inn)) := rA
          have H1 : Hid (Row w1 K.G (K.N * 4) (nodeC (jNd d K.t K.st rt))) := h1
          clear o1 rA h1 h2
          go_wp2
          go_end0
          refine ⟨rfl, ?_, ?_, ?_, ?_, ?_⟩
          · exact (H1.out.other hGL _).other (fun e => mGA e.symm) _
          · exact HA.out.setI32 K.t ht _
          · rw [World.cell?_setCell_other _ _ _ _ (by intro hx; injection hx; omega)]
            exact World.cell?_setCell_same _ _ _ ((HO.out.cell (p := ⟨lb, 0 * 3 + 2, none⟩) lB (by simpa using hGL)).trans HL.out.l2)
          · intro j hj
            rw [World.cell?_setCell_other _ _ _ _ (by intro hx; injection hx; omega), World.cell?_setCell_other _ _ _ _ (by intro hx; injection hx; omega)]
            exact HO.out.cell (p := ⟨lb, j, none⟩) lB (by simpa using hGL)
          · exact ((HO.out.mono (by simp)).setCell (by simp) _).setCell (by simp) _

end Go.Proofs.Ybulkhwa

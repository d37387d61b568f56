import Derived.Test.YbulkhwaJoin
namespace Go.Proofs.Ybulkhwa
open Go.RowKit Go.Pool

theorem grown_only {w w2 : World} {q : Nat} {o : Obj} (h : ((w.drewN q).drew.alloc o).grownBy w2 none) : Only [] w w2 :=
  ⟨h.os, h.tape, h.output, by have := h.size; simp at this; omega, fun k hk _ => (h.block k (by simp; omega) (by simp)).trans (Below.heap_alloc _ _ _ hk)⟩

theorem own_only {w w' : World} {base : Nat} {e : TypeId} {size : Nat} {v : Value} {n : Nat} {xs : List Value} {S : List Nat} (h : w.ownsRow base e size v n xs) (ho : Only S w w') (hn : ∀ p, v.ownBlock = some p → p ∉ S) : w'.ownsRow base e size v n xs := by
  refine ⟨h.1, h.2.imp (fun h => h) ?_⟩
  rintro ⟨g, cap, cur, e1, e2, e3, e4⟩
  exact ⟨g, cap, cur, e1, e2, (ho.block g (Array.getElem?_eq_some_iff.1 e3).1 (hn g (by rw [e1]; rfl))).trans e3, e4⟩

/-- an owned row that is not empty lies in a block -/
theorem own_some {w : World} {base : Nat} {e : TypeId} {size : Nat} {v : Value} {n : Nat} {xs : List Value} (h : w.ownsRow base e size v (n + 1) xs) : ∃ g c, v = .slice (some ⟨g, 0, none⟩) (n + 1) c ∧ base ≤ g ∧ g < w.heap.size := by
  rcases h.2 with ⟨_, h⟩ | ⟨g, c, cur, e1, e2, e3, _⟩
  · omega
  · exact ⟨g, c, e1, e2, (Array.getElem?_eq_some_iff.1 e3).1⟩

theorem Jn.only {K : Mb} (hK : K.Ok) {w wA wT : World} {iv : Int} {d : Nd} {inn : Nat → Int} (h : Jn K w iv d inn) (hA : Only [K.C, K.F] w wT) (v1 v2 : Value) (w2 w3 : World) (h2 : Only [] w w2) (eA : wA = w2.setCell ⟨K.C, 21, none⟩ v1) (h3 : Only [] wA w3) (eT : wT = w3.setCell ⟨K.F, 0, none⟩ v2) {vF : Value} (cF : wA.cell? ⟨K.F, 0, none⟩ = some vF) (fF : wA.frozen? ⟨K.F, 0, none⟩ = false) : Jn K wT iv d inn := by
  have hnd := hK.nd
  simp only [Mb.all, List.nodup_cons, List.mem_cons, List.not_mem_nil, not_or, or_false] at hnd
  obtain ⟨⟨h1, h2', h3', h4, h5, h6, h7⟩, ⟨_, _, _, g4, _, _⟩, ⟨_, _, g5, _, _⟩, ⟨_, g6, _⟩, ⟨g7, _⟩, ⟨g8, g9⟩, _⟩ := hnd
  have ht := hK.t
  have lC : K.C < w.heap.size := World.block_lt_of_cell? _ _ h.c4
  have lF : K.F < wA.heap.size := World.block_lt_of_cell? _ _ cF
  have lA : K.C < wA.heap.size := by rw [eA, World.size_setCell]; have := h2.size; omega
  have cC : ∀ j, j ≠ 21 → wT.cell? ⟨K.C, j, none⟩ = w.cell? ⟨K.C, j, none⟩ := by
    intro j hj
    rw [eT, World.cell?_setCell_other _ _ _ _ (by intro hx; injection hx with e1 e2; first | exact h5 e1 | exact h5 e1.symm), h3.cell (p := ⟨K.C, j, none⟩) lA (by simp), eA, World.cell?_setCell_other _ _ _ _ (by intro hx; injection hx with e1 e2; first | exact hj e2 | exact hj e2.symm), h2.cell (p := ⟨K.C, j, none⟩) lC (by simp)]
  have cO : ∀ (b j : Nat) (v : Value), b ≠ K.C → b ≠ K.F → w.cell? ⟨b, j, none⟩ = some v → wT.cell? ⟨b, j, none⟩ = some v := fun b j v h1 h2 hv =>
    (hA.cell (p := ⟨b, j, none⟩) (World.block_lt_of_cell? _ _ hv) (by simp [h1, h2])).trans hv
  refine ⟨(cC 4 (by decide)).trans h.c4, (cC 7 (by decide)).trans h.c7, (cC 10 (by decide)).trans h.c10, (cC 20 (by decide)).trans h.c20, (cC 22 (by decide)).trans h.c22, (cC 23 (by decide)).trans h.c23, (cC 24 (by decide)).trans h.c24,
    cO _ _ _ (Ne.symm h1) g4 h.s, cO _ _ _ (Ne.symm h2') g5 h.dn, cO _ _ _ (Ne.symm h3') g6 h.m, cO _ _ _ (Ne.symm h4) g7 h.i2, ?_, ?_, ?_, ?_⟩
  · exact h.a.only hA (h.a.lt (by omega)) (by simp [Ne.symm h6, Ne.symm g8])
  · exact h.g.only hA (h.g.lt (by omega)) (by simp [Ne.symm h7, Ne.symm g9])
  · intro j
    rw [eT, World.frozen?_setCell, h3.frozen (p := ⟨K.C, j, none⟩) lA (by simp), eA, World.frozen?_setCell, h2.frozen (p := ⟨K.C, j, none⟩) lC (by simp)]
    exact h.fC j
  · rw [eT, World.frozen?_setCell]
    rw [h3.frozen (p := ⟨K.F, 0, none⟩) lF (by simp)]
    exact fF

theorem Jn.lts {K : Mb} (hK : K.Ok) {w : World} {iv : Int} {d : Nd} {inn : Nat → Int} (h : Jn K w iv d inn) (hF : K.F < w.heap.size) : ∀ b ∈ K.all, b < w.heap.size := by
  have ht := hK.t
  intro b hb
  simp only [Mb.all, List.mem_cons, List.not_mem_nil, or_false] at hb
  rcases hb with rfl | rfl | rfl | rfl | rfl | rfl | rfl | rfl
  · exact World.block_lt_of_cell? _ _ h.c4
  · exact World.block_lt_of_cell? _ _ h.s
  · exact World.block_lt_of_cell? _ _ h.dn
  · exact World.block_lt_of_cell? _ _ h.m
  · exact World.block_lt_of_cell? _ _ h.i2
  · exact hF
  · exact h.a.lt (by omega)
  · exact h.g.lt (by omega)

/-- what 'join' leaves where it made a level -/
def NewJoin (K : Mb) (w w' : World) (iv : Int) (d : Nd) (inn : Nat → Int) (ln : Nat) : Prop :=
  ∃ wT lb lc fb fc, Lev K wT ln lb (ln + 1) lc fb fc iv (-1) ∧ Joined K wT w' d inn ln lb (-1) ∧ Only [K.C, K.F] w wT ∧ w.heap.size ≤ lb ∧ w.heap.size ≤ fb ∧ ∀ j, j ≠ 21 → wT.cell? ⟨K.C, j, none⟩ = w.cell? ⟨K.C, j, none⟩

set_option maxRecDepth 100000 in
set_option maxHeartbeats 2000000 in
theorem join_new (K : Mb) (hK : K.Ok) (w : World) (iv : Int) (d : Nd) (inn : Nat → Int) (h : Jn K w iv d inn) (hc : CurOk K.C w (-1)) (lp fp : Option Addr) (ln : Nat) (xs ys : List Value) (hln : ln ≤ 1)
    (c21 : w.cell? ⟨K.C, 21, none⟩ = some (.slice lp ln ln)) (cF : w.cell? ⟨K.F, 0, none⟩ = some (.slice fp ln ln)) (hx : w.ownsRow 0 64 3 (.slice lp ln ln) ln xs) (hy : w.ownsRow 0 21 1 (.slice fp ln ln) ln ys)
    (hfC : ∀ p, fp = some p → p.block ≠ K.C) :
    Calls Yba.prog 20 #[.pointer (some ⟨K.C, 0, none⟩), .int .i32 K.t, .int .i32 0] w fun e w' => e = .returned (.tuple #[]) ∧ NewJoin K w w' iv d inn ln := by
  have HJ0 : Hid (Jn K w iv d inn) := h
  have HC : Hid (CurOk K.C w (-1)) := hc
  have HR : Hid (RtOk K d (-1)) := Or.inl (by decide)
  have HX : Hid (w.ownsRow 0 64 3 (.slice lp ln ln) ln xs) := hx
  have HY : Hid (w.ownsRow 0 21 1 (.slice fp ln ln) ln ys) := hy
  have HF : Hid (∀ p, fp = some p → p.block ≠ K.C) := hfC
  have ht := hK.t
  have c20 := h.c20
  obtain ⟨mCG, mCA, mGA, mFG, mFA, mCF, mCI, mIF⟩ := hK.mem
  clear h hc hx hy hfC
  go_enter Yba.func20, Yba.ntmps20
  go_wp2_with fail
  refine (current_any _ _ _ HC.out).mono ?_
  rintro e w1 ⟨rfl, q, rfl⟩
  go_wp2_with fail
  refine r4 K.C K.I lp ln ln iv 0 xs (by kernel_rfl) (by kernel_rfl) (by kernel_rfl) (by kernel_rfl) (by kernel_rfl) (by kernel_rfl) rfl rfl rfl
    c21 (HJ0.out.fC 21) HJ0.out.i2 HX.out hln rfl ?_
  intro x v' w2 ho2 hg2
  refine lay_of_moves (P := Yba.prog) (ops := (movesOf DJ4 x).toArray) x DJ4 _ _ ?_
  simp only [movesOf, DJ4, List.map_cons, List.map_nil]
  go_wp2_with fail
  obtain ⟨lb, lc, rfl, gb, lb2⟩ := own_some ho2
  replace gb : w.heap.size ≤ lb := gb
  have o2 := grown_only hg2
  obtain ⟨wA, eA⟩ : ∃ x, x = w2.setCell ⟨K.C, 21, none⟩ (.slice (some ⟨lb, 0, none⟩) (ln + 1) lc) := ⟨_, rfl⟩
  have lC : K.C < w.heap.size := World.block_lt_of_cell? _ _ c21
  have lF : K.F < w.heap.size := World.block_lt_of_cell? _ _ cF
  have oA : Only [K.C] w wA := by rw [eA]; exact (o2.mono (by simp)).setCell (by simp) _
  have c22A : wA.cell? ⟨K.C, 22, none⟩ = some (.slice (some ⟨K.F, 0, none⟩) 1 1) := by
    rw [eA, World.cell?_setCell_other _ _ _ _ (by intro hx; injection hx; omega)]
    exact (o2.cell (p := ⟨K.C, 22, none⟩) lC (by simp)).trans HJ0.out.c22
  have cFA : wA.cell? ⟨K.F, 0, none⟩ = some (.slice fp ln ln) := (oA.cell (p := ⟨K.F, 0, none⟩) lF (by simp; omega)).trans cF
  have fFA : wA.frozen? ⟨K.F, 0, none⟩ = false := (oA.frozen (p := ⟨K.F, 0, none⟩) lF (by simp; omega)).trans HJ0.out.fF
  have hyA : wA.ownsRow 0 21 1 (.slice fp ln ln) ln ys := own_only HY.out oA (by
    intro p hp
    cases fp with
    | none => simp [Value.ownBlock] at hp
    | some a =>
      have := HF.out a rfl
      simp [Value.ownBlock] at hp
      simp
      omega)
  rw [← eA]
  refine r5 K.C K.F fp ln ln ln 0 ys (by kernel_rfl) (by kernel_rfl) (by kernel_rfl) (by kernel_rfl) (by kernel_rfl) (by kernel_rfl) rfl rfl rfl
    cFA fFA c22A hyA hln rfl ?_
  intro x v'' w3 ho3 hg3
  obtain ⟨fb, fc, rfl, gf, fb2⟩ := own_some ho3
  have o3 : Only [] wA w3 := grown_only (q := 0) hg3
  obtain ⟨wT, eT⟩ : ∃ x, x = w3.setCell ⟨K.F, 0, none⟩ (.slice (some ⟨fb, 0, none⟩) (ln + 1) fc) := ⟨_, rfl⟩
  have sA : w2.heap.size = wA.heap.size := by rw [eA, World.size_setCell]
  have oT : Only [K.C, K.F] w wT := by rw [eT]; exact ((oA.mono (by simp)).trans (o3.mono (by simp))).setCell (by simp) _
  have oT2 : Only [K.C, K.F] w2 wT := by
    rw [eT]
    refine (Only.trans (b := wA) ?_ (o3.mono (by simp))).setCell (by simp) _
    rw [eA]; exact (Only.refl _ w2).setCell (by simp) _
  have oAT : Only [K.F] wA wT := by rw [eT]; exact (o3.mono (by simp)).setCell (by simp) _
  have HJ : Hid (Jn K wT iv d inn) := HJ0.out.only hK oT _ _ w2 w3 o2 eA o3 eT cFA fFA
  have hall : ∀ b ∈ K.all, b < w.heap.size := HJ0.out.lts hK lF
  have cl : ∀ j, j < 3 → wT.cell? ⟨lb, ln * 3 + j, none⟩ = (newLv iv)[j]? := by
    intro j hj
    rw [oT2.cell (p := ⟨lb, ln * 3 + j, none⟩) lb2 (by simp; omega), ho2.cellAt _ (by omega), List.getElem?_append_right (by rw [HX.out.1]; omega), HX.out.1]
    congr 1
    omega
  have HL : Hid (Lev K wT ln lb (ln + 1) lc fb fc iv (-1)) := by
    refine ⟨by omega, ?_, cl 0 (by decide), cl 1 (by decide), cl 2 (by decide), ?_, fun hm => by have := hall _ hm; omega, ?_, ?_, fun hm => by have := hall _ hm; have := oA.size; omega, by omega⟩
    · rw [oAT.cell (p := ⟨K.C, 21, none⟩) (by show K.C < _; have := oA.size; omega) (by simp; omega), eA]
      exact World.cell?_setCell_same _ _ _ ((o2.cell (p := ⟨K.C, 21, none⟩) lC (by simp)).trans c21)
    · intro j
      rw [oT2.frozen (p := ⟨lb, j, none⟩) lb2 (by simp; omega)]
      exact ho2.frozenAt j
    · rw [eT]
      exact World.cell?_setCell_same _ _ _ ((o3.cell (p := ⟨K.F, 0, none⟩) (by show K.F < _; have := oA.size; omega) (by simp)).trans cFA)
    · rw [eT, World.cell?_setCell_other _ _ _ _ (by intro hx; injection hx; have := oA.size; omega), ho3.cellAt _ (by omega), List.getElem?_append_right (by rw [HY.out.1]; omega), HY.out.1]
      simp
  refine lay_of_moves (P := Yba.prog) (ops := (movesOf DJ5 x).toArray) x DJ5 _ _ ?_
  simp only [movesOf, DJ5, List.map_cons, List.map_nil]
  rw [← eT]
  have HO1 : Hid (Only [K.C, K.F] w wT ∧ w.heap.size ≤ lb ∧ w.heap.size ≤ fb ∧ ∀ j, j ≠ 21 → wT.cell? ⟨K.C, j, none⟩ = w.cell? ⟨K.C, j, none⟩) := by
    refine ⟨oT, gb, by have := oA.size; omega, fun j hj => ?_⟩
    rw [oAT.cell (p := ⟨K.C, j, none⟩) (by show K.C < _; have := oA.size; omega) (by simp; omega), eA, World.cell?_setCell_other _ _ _ _ (by intro hx; injection hx with e1 e2; first | exact hj e2 | exact hj e2.symm)]
    exact o2.cell (p := ⟨K.C, j, none⟩) lC (by simp)
  clear oT oT2 oAT cl ho3 hg3 o3 sA eT hyA fFA cFA c22A oA eA o2 ho2 hg2 c20 c21 cF
  go_wp2_with fail
  refine r6 K.C K.G K.N K.t (arrF K.st K.t) ht (by kernel_rfl) (by kernel_rfl) (by kernel_rfl) (by kernel_rfl) (by kernel_rfl) rfl rfl
    (fun k w' => (k ≤ 1 ∧ ∃ q, w' = wT.drewN q) ∨ (k = 2 ∧ ∃ q, w' = (wT.drewN q).setCell ⟨K.G, K.t * 4 + 2, none⟩ (.int .i64 (arrF K.st K.t)))) (Or.inl ⟨by omega, 1, rfl⟩) ?_ ?_ ?_ ?_
  · rintro k w' (⟨_, q', rfl⟩ | ⟨_, q', rfl⟩)
    · exact HJ.out.c24
    · rw [World.cell?_setCell_other _ _ _ _ (by intro hx; injection hx; omega)]; exact HJ.out.c24
  · rintro w' (⟨_, q', rfl⟩ | ⟨h, _⟩)
    · refine (arrival_any K.C K.S K.D K.M K.N K.t K.st (wT.drewN q') ht hK.N hK.st HJ.out.c4 HJ.out.c7 HJ.out.c10 HJ.out.s HJ.out.dn HJ.out.m).mono ?_
      rintro e w'' ⟨rfl, q'', rfl⟩
      exact ⟨rfl, Or.inl ⟨by omega, q' + q'', by rw [World.drewN_drewN]⟩⟩
    · cases h
  · rintro w' (⟨_, q', rfl⟩ | ⟨h, _⟩)
    · exact ⟨HJ.out.g.frozen _, ⟨_, (HJ.out.g.nd K.t ht).2.2.1⟩, Or.inr ⟨rfl, q', rfl⟩⟩
    · cases h
  · rintro x w' (⟨h, _⟩ | ⟨_, q', rfl⟩)
    · omega
    · refine lay_of_moves (P := Yba.prog) (ops := (movesOf DJ6 x).toArray) x DJ6 _ _ ?_
      simp only [movesOf, DJ6, List.map_cons, List.map_nil]
      go_wp2_with fail
      obtain ⟨wS, hwS⟩ : ∃ x, x = (wT.drewN q').setCell ⟨K.G, K.t * 4 + 2, none⟩ (.int .i64 (arrF K.st K.t)) := ⟨_, rfl⟩
      rw [← hwS]
      have oS : Only [K.G] wT wS := by rw [hwS]; exact ((Only.refl _ wT).drewN q').setCell (by simp) _
      have gS : Row wS K.G (K.N * 4) (nodeC { d with a := upd d.a K.t (arrF K.st K.t) }) := by rw [hwS]; exact Row.nd2 (HJ.out.g.drewN q') K.t ht _
      have c24S : wS.cell? ⟨K.C, 24, none⟩ = some (.slice (some ⟨K.G, 0, none⟩) K.N K.N) := by
        rw [hwS, World.cell?_setCell_other _ _ _ _ (by intro hx; injection hx; omega)]; exact HJ.out.c24
      clear hwS
      have HS : Hid (Only [K.G] wT wS) := oS
      have HG : Hid (Row wS K.G (K.N * 4) (nodeC { d with a := upd d.a K.t (arrF K.st K.t) })) := gS
      have HD : Hid (wS.cell? ⟨K.C, 24, none⟩ = some (.slice (some ⟨K.G, 0, none⟩) K.N K.N)) := c24S
      clear oS gS c24S
      have hCL : K.C ≠ lb := fun e => HL.out.lo (by rw [← e]; simp [Mb.all])
      have hGL : lb ≠ K.G := fun e => HL.out.lo (by rw [e]; simp [Mb.all])
      have hAL : lb ≠ K.A := fun e => HL.out.lo (by rw [e]; simp [Mb.all])
      obtain ⟨mCG, mCA, mGA, _⟩ := hK.mem
      have lC : K.C < wT.heap.size := World.block_lt_of_cell? _ _ HJ.out.c24
      have lB : lb < wT.heap.size := World.block_lt_of_cell? _ _ HL.out.l2
      have lA : K.A < wT.heap.size := World.block_lt_of_cell? _ _ (HJ.out.a.cell K.t ht)
      have lS : wT.heap.size ≤ wS.heap.size := HS.out.size
      refine r7 K.C lb (ln + 1) lc ln K.t (-1) (jRt K.t (-1)) HL.out.lt (by kernel_rfl) (by kernel_rfl) (by kernel_rfl) (by kernel_rfl) (by kernel_rfl) (by kernel_rfl) rfl rfl rfl
        (fun k w' => (k = 0 ∧ ∃ q, w' = wS.drewN q) ∨ (k = 1 ∧ Row w' K.G (K.N * 4) (nodeC (jNd d K.t K.st (-1))) ∧ Only [K.G] wS w') ∨ (k = 2 ∧ ∃ w1, Row w1 K.G (K.N * 4) (nodeC (jNd d K.t K.st (-1))) ∧ Only [K.G] wS w1 ∧ w' = w1.setCell ⟨lb, ln * 3 + 2, none⟩ (.int .i32 (jRt K.t (-1)))))
        (Or.inl ⟨rfl, 1, rfl⟩) ?_ ?_ ?_ ?_ ?_
      · have hS : wS.cell? ⟨K.C, 21, none⟩ = some (.slice (some ⟨lb, 0, none⟩) (ln + 1) lc) := (HS.out.cell (p := ⟨K.C, 21, none⟩) lC (by simpa using mCG)).trans HL.out.c21
        rintro k w' (⟨_, q, rfl⟩ | ⟨_, _, h2⟩ | ⟨_, w1, _, h2, rfl⟩)
        · exact hS
        · exact (h2.cell (p := ⟨K.C, 21, none⟩) (by show K.C < _; omega) (by simpa using mCG)).trans hS
        · rw [World.cell?_setCell_other _ _ _ _ (by intro hx; injection hx; omega)]
          exact (h2.cell (p := ⟨K.C, 21, none⟩) (by show K.C < _; omega) (by simpa using mCG)).trans hS
      · rintro w' (⟨_, q, rfl⟩ | ⟨h, _⟩ | ⟨h, _⟩)
        · exact (HS.out.cell (p := ⟨lb, ln * 3 + 2, none⟩) lB (by simpa using hGL)).trans HL.out.l2
        · cases h
        · cases h
      · rintro w' (⟨_, q, rfl⟩ | ⟨h, _⟩ | ⟨h, _⟩)
        · refine (insert_join hK (w := wS.drewN q) mCG HD.out (HG.out.drewN q) HR.out).mono ?_
          rintro e w'' ⟨rfl, h1, h2⟩
          exact ⟨rfl, Or.inr (Or.inl ⟨rfl, h1, ((Only.refl _ wS).drewN q).trans h2⟩)⟩
        · cases h
        · cases h
      · rintro w' (⟨h, _⟩ | ⟨_, h1, h2⟩ | ⟨h, _⟩)
        · cases h
        · refine ⟨?_, ⟨.int .i32 (-1), ?_⟩, Or.inr (Or.inr ⟨rfl, w', h1, h2, rfl⟩)⟩
          · exact ((h2.frozen (p := ⟨lb, ln * 3 + 2, none⟩) (by show lb < _; omega) (by simpa using hGL)).trans (HS.out.frozen (p := ⟨lb, ln * 3 + 2, none⟩) lB (by simpa using hGL))).trans (HL.out.fl _)
          · exact ((h2.cell (p := ⟨lb, ln * 3 + 2, none⟩) (by show lb < _; omega) (by simpa using hGL)).trans (HS.out.cell (p := ⟨lb, ln * 3 + 2, none⟩) lB (by simpa using hGL))).trans HL.out.l2
        · cases h
      · rintro x w' (⟨h, _⟩ | ⟨h, _⟩ | ⟨_, w1, h1, h2, rfl⟩)
        · cases h
        · cases h
        · refine lay_of_moves (P := Yba.prog) (ops := (movesOf DJ7 x).toArray) x DJ7 _ _ ?_
          simp only [movesOf, DJ7, List.map_cons, List.map_nil]
          have o1 : Only [K.G] wT w1 := HS.out.trans h2
          have c23 : (w1.setCell ⟨lb, ln * 3 + 2, none⟩ (.int .i32 (jRt K.t (-1)))).cell? ⟨K.C, 23, none⟩ = some (.slice (some ⟨K.A, 0, none⟩) K.N K.N) := by
            rw [World.cell?_setCell_other _ _ _ _ (by intro hx; injection hx; omega)]
            exact (o1.cell (p := ⟨K.C, 23, none⟩) lC (by simpa using mCG)).trans HJ.out.c23
          have rA : Row (w1.setCell ⟨lb, ln * 3 + 2, none⟩ (.int .i32 (jRt K.t (-1)))) K.A K.N (i32s inn) := (HJ.out.a.only o1 lA (by simpa using fun e => mGA e.symm)).other hAL _
          have rAt := rA.cell K.t ht
          have rAf := rA.frozen K.t
          have HO : Hid (Only [K.G] wT w1) := o1
          have HA : Hid (Row (w1.setCell ⟨lb, ln * 3 + 2, none⟩ (.int .i32 (jRt K.t (-1)))) K.A K.N (i32s inn)) := rA
          have H1 : Hid (Row w1 K.G (K.N * 4) (nodeC (jNd d K.t K.st (-1)))) := h1
          clear o1 rA h1 h2
          go_wp2
          go_end0
          refine ⟨rfl, wT, lb, lc, fb, fc, HL.out, ⟨?_, ?_, ?_, ?_, ?_⟩, HO1.out⟩
          · exact (H1.out.other hGL _).other (fun e => mGA e.symm) _
          · exact HA.out.setI32 K.t ht _
          · rw [World.cell?_setCell_other _ _ _ _ (by intro hx; injection hx; omega)]
            exact World.cell?_setCell_same _ _ _ ((HO.out.cell (p := ⟨lb, ln * 3 + 2, none⟩) lB (by simpa using hGL)).trans HL.out.l2)
          · intro j hj
            rw [World.cell?_setCell_other _ _ _ _ (by intro hx; injection hx; omega), World.cell?_setCell_other _ _ _ _ (by intro hx; injection hx; omega)]
            exact HO.out.cell (p := ⟨lb, j, none⟩) lB (by simpa using hGL)
          · exact ((HO.out.mono (by simp)).setCell (by simp) _).setCell (by simp) _

end Go.Proofs.Ybulkhwa

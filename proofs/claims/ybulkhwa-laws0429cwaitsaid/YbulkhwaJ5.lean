import Derived.Test.YbulkhwaJ4
namespace Go.Proofs.Ybulkhwa
open Go.RowKit Go.Pool

theorem r5 {ops : Array Oper} {rid : Nat} {a0 : Act} {w : World} {Q : Exit → Act → World → Prop} (C F : Nat) (fp : Option Addr) (fn fc id : Nat) (base : Nat) (xs : List Value)
    (hm : Yba.prog.follows .mixedOrders = true) (hsz : a0.tmps.size = 91) (hops : ops.toList.map (fun o => (o.dst, o.op)) = tabJ5) (hB : threadB ops [13, 14, 16] isJ5 DJ5 91 = true) (hR : readsB ops inJ5 outJ5 = true) (hx : waits ops 14 11 = true)
    (h0 : a0.eval (.tmp 0) = .pointer (some ⟨C, 0, none⟩)) (h2 : a0.eval (.tmp 2) = .int .i32 0) (h6 : a0.eval (.tmp 6) = .int .i32 id)
    (cF : w.cell? ⟨F, 0, none⟩ = some (.slice fp fn fc)) (fF : w.frozen? ⟨F, 0, none⟩ = false) (c22 : w.cell? ⟨C, 22, none⟩ = some (.slice (some ⟨F, 0, none⟩) 1 1))
    (hown : w.ownsRow base 21 1 (.slice fp fn fc) fn xs) (hln : fn ≤ 1) (hfull : fc = fn)
    (hend : ∀ x v' w2, w2.ownsRow w.heap.size 21 1 v' (fn + 1) (xs ++ [.int .i32 (id : Int)]) → (w.drew.alloc (.cells ([.int .i32 (id : Int)]).toArray 21)).grownBy w2 none → Q .normal (lay DJ5 x a0) (w2.setCell ⟨F, 0, none⟩ v')) :
    (Code.region rid ops true).wp Yba.prog Q a0 w := by
  have lF : F < w.heap.size := World.block_lt_of_cell? _ _ cF
  have lC : C < w.heap.size := World.block_lt_of_cell? _ _ c22
  have A : ∀ p : Addr, p.block < w.heap.size → (w.drew.alloc (.cells ([.int .i32 (id : Int)]).toArray 21)).cell? p = w.cell? p := fun p hp => World.cell?_alloc_lt _ _ _ hp
  have G : ∀ (w2 : World) (p : Addr), (w.drew.alloc (.cells ([.int .i32 (id : Int)]).toArray 21)).grownBy w2 none → p.block < w.heap.size → some p.block ≠ none → w2.cell? p = w.cell? p := fun w2 p hg hp hn =>
    (World.cell?_of_block (hg.block p.block (by simp; omega) hn)).trans (A p hp)
  refine wp_region_thread hm [13, 14, 16] isJ5 DJ5 (by rw [hsz]; exact hB) inJ5 outJ5 hR (VJ5 C F fp fn fc id)
    (fun k e w' => (k = 0 ∧ w' = w.drew) ∨ (k = 1 ∧ w' = w.drew.alloc (.cells ([.int .i32 (id : Int)]).toArray 21) ∧ e 53 = .slice (some ⟨w.heap.size, 0, none⟩) 1 1) ∨
      (k = 2 ∧ ∃ v', e 54 = v' ∧ w'.ownsRow w.heap.size 21 1 v' (fn + 1) (xs ++ [.int .i32 (id : Int)]) ∧ (w.drew.alloc (.cells ([.int .i32 (id : Int)]).toArray 21)).grownBy w' none) ∨
      (k = 3 ∧ ∃ v' w2, w' = w2.setCell ⟨F, 0, none⟩ v' ∧ w2.ownsRow w.heap.size 21 1 v' (fn + 1) (xs ++ [.int .i32 (id : Int)]) ∧ (w.drew.alloc (.cells ([.int .i32 (id : Int)]).toArray 21)).grownBy w2 none))
    (fun _ => undef) (Or.inl ⟨rfl, rfl⟩) ?_ ?_ ?_
  · intro i o d a e k w' ho hc' hd hin hout hk hW
    refine J5_pure C F fp fn fc id hops h0 h2 h6 i o d a e w' ho hc' hd hin hout ?_ (fun hi => ?_)
    · rcases hW with ⟨rfl, rfl⟩ | ⟨rfl, rfl, _⟩ | ⟨rfl, v', _, _, hg⟩ | ⟨rfl, v', w2, rfl, _, hg⟩
      · exact c22
      · rw [A _ lC]; exact c22
      · rw [G w' _ hg lC (by simp)]; exact c22
      · rw [World.cell?_setCell_other _ _ _ _ (by intro hx; injection hx; omega), G w2 _ hg lC (by simp)]; exact c22
    · subst hi
      have : k ≤ 1 := hk 1 (by simp) hx
      rcases hW with ⟨rfl, rfl⟩ | ⟨rfl, rfl, _⟩ | ⟨rfl, _⟩ | ⟨rfl, _⟩
      · exact cF
      · rw [A _ lF]; exact cF
      · omega
      · omega
  · intro k o a e w' hk ho hin hout hW
    have hk3 : k = 0 ∨ k = 1 ∨ k = 2 := by simp at hk; omega
    rcases hk3 with rfl | rfl | rfl
    · have hat := op_at hops 13 o ho
      simp only [tabJ5, List.getElem?_cons_zero, List.getElem?_cons_succ, Option.some.injEq, Prod.mk.injEq] at hat
      obtain ⟨hdst, hop⟩ := hat
      obtain ⟨_, rfl⟩ | ⟨h, _⟩ | ⟨h, _⟩ | ⟨h, _⟩ := hW
      · have q52 : a.eval (.tmp 52) = .int .i32 id := hin 52 (by decide)
        unfold Oper.wp
        have hrun : (execOp a.eval o).run Yba.prog w.drew = .ok (.value (.slice (some ⟨w.heap.size, 0, none⟩) 1 1)) (w.drew.alloc (.cells ([.int .i32 (id : Int)]).toArray 21)) := by
          clear hk ho hend hops hR hB hdst hin hout
          generalize a.eval = ρ at *
          unfold execOp; rw [← hop]; go_simp
        rw [hrun]
        exact ⟨_, fun s => if o.dst = some s then .slice (some ⟨w.heap.size, 0, none⟩) 1 1 else e s, rfl, fun s => rfl, Or.inr (Or.inl ⟨rfl, rfl, by simp [← hdst]⟩)⟩
      all_goals cases h
    · have hat := op_at hops 14 o ho
      simp only [tabJ5, List.getElem?_cons_zero, List.getElem?_cons_succ, Option.some.injEq, Prod.mk.injEq] at hat
      obtain ⟨hdst, hop⟩ := hat
      obtain ⟨h, _⟩ | ⟨_, rfl, h53⟩ | ⟨h, _⟩ | ⟨h, _⟩ := hW
      · cases h
      · have q51 : a.eval (.tmp 51) = .slice fp fn fc := hin 51 (by decide)
        have q53 : a.eval (.tmp 53) = .slice (some ⟨w.heap.size, 0, none⟩) 1 1 := (hin 53 (by decide)).trans h53
        obtain ⟨i0, hi, hz0, hz1, hz2⟩ := info_parts info21
        have hown1 : (w.drew.alloc (.cells ([.int .i32 (id : Int)]).toArray 21)).ownsRow base 21 1 (.slice fp fn fc) fn xs := by
          refine ⟨hown.1, hown.2.imp (fun h => h) ?_⟩
          rintro ⟨g, cap, cur, e1, e2, e3, e4⟩
          exact ⟨g, cap, cur, e1, e2, (Below.heap_alloc w.drew _ g (Array.getElem?_eq_some_iff.1 e3).1).trans e3, e4⟩
        subst hfull
        obtain ⟨v', w2, hr, ho2, hg2⟩ := run_append_new (P := Yba.prog) (w := w.drew.alloc (.cells ([.int .i32 (id : Int)]).toArray 21)) base 24 o.type 21 i0 _ 1 4 Yba.underlying24 hi hz0 hz1 hz2 rfl (by decide) fp fc xs hown1 ⟨w.heap.size, 0, none⟩ 1 1 (by decide) ([.int .i32 (id : Int)]) rfl
          (fun j u hj => by
            rw [Go.WideShapes.add_plain, World.cell?_alloc_at _ _ _ _ (by simp)]
            simpa using hj)
          (fun u hu => by simp at hu; subst hu; rfl) (by unfold maxLen; omega) (by omega)
        unfold Oper.wp
        rw [run_append_op hop.symm q51 q53 hr]
        exact ⟨_, fun s => if o.dst = some s then v' else e s, rfl, fun s => rfl, Or.inr (Or.inr (Or.inl ⟨rfl, v', by simp [← hdst], ⟨ho2.1, ho2.2.imp (fun h => h) (fun ⟨g, cap, cur, e1, e2, e3⟩ => ⟨g, cap, cur, e1, by simp at e2; omega, e3⟩)⟩, hg2⟩))⟩
      · cases h
      · cases h
    · have hat := op_at hops 16 o ho
      simp only [tabJ5, List.getElem?_cons_zero, List.getElem?_cons_succ, Option.some.injEq, Prod.mk.injEq] at hat
      obtain ⟨hdst, hop⟩ := hat
      obtain ⟨h, _⟩ | ⟨h, _⟩ | ⟨_, v', h54, ho2, hg2⟩ | ⟨h, _⟩ := hW
      · cases h
      · cases h
      · have q55 : a.eval (.tmp 55) = .pointer (some ⟨F, 0, none⟩) := hin 55 (by decide)
        have q54 : a.eval (.tmp 54) = v' := (hin 54 (by decide)).trans h54
        have c1 := (G w' ⟨F, 0, none⟩ hg2 lF (by simp)).trans cF
        have f1 : w'.frozen? ⟨F, 0, none⟩ = false := by
          rw [World.frozen?_of_block (hg2.block F (by simp; omega) (by simp)), World.frozen?_alloc_old _ _ _ (by show F ≠ w.heap.size; omega)]
          exact fF
        have hv : ∃ p n c, v' = .slice p n c := by
          rcases ho2.2 with ⟨h, _⟩ | ⟨g, cap, cur, h, _⟩
          · exact ⟨_, _, _, h⟩
          · exact ⟨_, _, _, h⟩
        obtain ⟨vp, vn, vc, rfl⟩ := hv
        unfold Oper.wp
        have hrun : (execOp a.eval o).run Yba.prog w' = .ok .skip (w'.setCell ⟨F, 0, none⟩ (.slice vp vn vc)) := by
          clear hk ho hend hops hR hB hdst hin hout h54 ho2 hg2 A G hown
          generalize a.eval = ρ at *
          unfold execOp; rw [← hop]; go_simp
        rw [hrun]
        exact ⟨_, fun s => if o.dst = some s then undef else e s, rfl, fun s => rfl, Or.inr (Or.inr (Or.inr ⟨rfl, _, w', rfl, ho2, hg2⟩))⟩
      · cases h
  · rintro e w' (⟨h, _⟩ | ⟨h, _⟩ | ⟨h, _⟩ | ⟨_, v', w2, rfl, ho, hg⟩)
    · cases h
    · cases h
    · cases h
    · exact hend _ v' w2 ho hg

end Go.Proofs.Ybulkhwa

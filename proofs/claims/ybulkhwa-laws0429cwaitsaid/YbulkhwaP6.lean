import Derived.Test.YbulkhwaP10
import Derived.Test.YbulkhwaRep
namespace Go.Proofs.Ybulkhwa
open Go.RowKit Go.Pool

set_option maxHeartbeats 2000000 in
theorem p6 {ops : Array Oper} {rid : Nat} {a0 : Act} {w : World} {Q : Exit → Act → World → Prop} (C X J B N l : Nat) (x : Int) (hp : Option Addr) (hn hc : Nat) (base : Nat) (xs : List Value) (hl : l < N)
    (hm : Yba.prog.follows .mixedOrders = true) (hsz : a0.tmps.size = 108) (hops : ops.toList.map (fun o => (o.dst, o.op)) = tabP6) (hB : threadB ops [15, 16, 17] isP6 DP6 108 = true) (hR : readsB ops inP6 outP6 = true)
    (h0 : a0.eval (.tmp 0) = .pointer (some ⟨C, 0, none⟩)) (h6 : a0.eval (.tmp 6) = .slice hp hn hc) (h8 : a0.eval (.tmp 8) = .pointer (some ⟨B, 0, none⟩))
    (c1 : w.cell? ⟨C, 1, none⟩ = some (.slice (some ⟨X, 0, none⟩) N N)) (c15 : w.cell? ⟨C, 15, none⟩ = some (.slice (some ⟨J, 0, none⟩) N N)) (b0 : w.cell? ⟨B, 0, none⟩ = some (.int .i32 l)) (j0 : w.cell? ⟨J, l, none⟩ = some (.int .i32 l)) (x0 : w.cell? ⟨X, l, none⟩ = some (.int .i64 x))
    (hne : ∀ b, b = C ∨ b = X ∨ b = J ∨ b = B → some b ≠ (Value.slice hp hn hc).ownBlock)
    (hown : w.ownsRow base 3 1 (.slice hp hn hc) hn xs) (hbase : base ≤ w.heap.size) (hln : hn ≤ 1024)
    (hend : ∀ y v' w2, w2.ownsRow base 3 1 v' (hn + 1) (xs ++ [.int .i64 x]) → (w.drew.alloc (.cells #[.int .i64 x] 3)).grownBy w2 (Value.slice hp hn hc).ownBlock → y 6 = v' → Q .normal (lay DP6 y a0) w2) :
    (Code.region rid ops true).wp Yba.prog Q a0 w := by
  have A : ∀ p : Addr, p.block < w.heap.size → (w.drew.alloc (.cells #[.int .i64 x] 3)).cell? p = w.cell? p := fun p hp => World.cell?_alloc_lt _ _ _ hp
  have G : ∀ (w2 : World) (p : Addr) (v : Value), (w.drew.alloc (.cells #[.int .i64 x] 3)).grownBy w2 (Value.slice hp hn hc).ownBlock → some p.block ≠ (Value.slice hp hn hc).ownBlock → w.cell? p = some v → w2.cell? p = some v := fun w2 p v hg hn hv => by
    have hp := World.block_lt_of_cell? _ _ hv
    exact ((World.cell?_of_block (hg.block p.block (by simp; omega) hn)).trans (A p hp)).trans hv
  refine wp_region_thread hm [15, 16, 17] isP6 DP6 (by rw [hsz]; exact hB) inP6 outP6 hR (VP6 C X J B N l x hp hn hc)
    (fun k e w' => (k = 0 ∧ w' = w.drew) ∨ (k = 1 ∧ w' = w.drew.alloc (.cells #[.int .i64 x] 3) ∧ e 74 = .slice (some ⟨w.heap.size, 0, none⟩) 1 1) ∨
      ((k = 2 ∨ k = 3) ∧ ∃ v', e 75 = v' ∧ (k = 3 → e 6 = v') ∧ w'.ownsRow base 3 1 v' (hn + 1) (xs ++ [.int .i64 x]) ∧ (w.drew.alloc (.cells #[.int .i64 x] 3)).grownBy w' (Value.slice hp hn hc).ownBlock))
    (fun _ => undef) (Or.inl ⟨rfl, rfl⟩) ?_ ?_ ?_
  · intro i o d a e k w' ho hc' hd hin hout hk hW
    have E : ∀ (p : Addr) (v : Value), some p.block ≠ (Value.slice hp hn hc).ownBlock → w.cell? p = some v → w'.cell? p = some v := by
      intro p v hn hv
      rcases hW with ⟨rfl, rfl⟩ | ⟨rfl, rfl, _⟩ | ⟨_, v', _, _, _, hg⟩
      · exact hv
      · rw [A _ (World.block_lt_of_cell? _ _ hv)]; exact hv
      · exact G w' p v hg hn hv
    exact P6_pure C X J B N l x hp hn hc hops h0 h6 h8 i o d a e w' ho hc' hd hin hout hl (E _ _ (hne C (by simp)) c1) (E _ _ (hne C (by simp)) c15) (E _ _ (hne B (by simp)) b0) (E _ _ (hne J (by simp)) j0) (E _ _ (hne X (by simp)) x0)
  · intro k o a e w' hk ho hin hout hW
    have hk3 : k = 0 ∨ k = 1 ∨ k = 2 := by simp at hk; omega
    rcases hk3 with rfl | rfl | rfl
    · have hat := op_at hops 15 o ho
      simp only [tabP6, List.getElem?_cons_zero, List.getElem?_cons_succ, Option.some.injEq, Prod.mk.injEq] at hat
      obtain ⟨hdst, hop⟩ := hat
      obtain ⟨_, rfl⟩ | ⟨h, _⟩ | ⟨h, _⟩ := hW
      · have q73 : a.eval (.tmp 73) = .int .i64 x := hin 73 (by decide)
        unfold Oper.wp
        have hrun : (execOp a.eval o).run Yba.prog w.drew = .ok (.value (.slice (some ⟨w.heap.size, 0, none⟩) 1 1)) (w.drew.alloc (.cells #[.int .i64 x] 3)) := by
          clear hk ho hend hops hR hB hdst hin hout
          generalize a.eval = ρ at *
          unfold execOp; rw [← hop]; go_simp
        rw [hrun]
        exact ⟨_, fun s => if o.dst = some s then .slice (some ⟨w.heap.size, 0, none⟩) 1 1 else e s, rfl, fun s => rfl, Or.inr (Or.inl ⟨rfl, rfl, by simp [← hdst]⟩)⟩
      · cases h
      · omega
    · have hat := op_at hops 16 o ho
      simp only [tabP6, List.getElem?_cons_zero, List.getElem?_cons_succ, Option.some.injEq, Prod.mk.injEq] at hat
      obtain ⟨hdst, hop⟩ := hat
      obtain ⟨h, _⟩ | ⟨_, rfl, h74⟩ | ⟨h, _⟩ := hW
      · cases h
      · have q59 : a.eval (.tmp 59) = .slice hp hn hc := hin 59 (by decide)
        have q74 : a.eval (.tmp 74) = .slice (some ⟨w.heap.size, 0, none⟩) 1 1 := (hin 74 (by decide)).trans h74
        obtain ⟨i0, hi, hz0, hz1, hz2⟩ := info_parts info3
        have hown1 : (w.drew.alloc (.cells #[.int .i64 x] 3)).ownsRow base 3 1 (.slice hp hn hc) hn xs := by
          refine ⟨hown.1, hown.2.imp (fun h => h) ?_⟩
          rintro ⟨g, cap, cur, e1, e2, e3, e4⟩
          exact ⟨g, cap, cur, e1, e2, (Below.heap_alloc w.drew _ g (Array.getElem?_eq_some_iff.1 e3).1).trans e3, e4⟩
        obtain ⟨v', w2, hr, ho2, hg2, _⟩ := run_append_own (P := Yba.prog) (w := w.drew.alloc (.cells #[.int .i64 x] 3)) base 34 o.type 3 i0 _ 1 8 Yba.underlying34 hi hz0 hz1 hz2 rfl (by decide) (.slice hp hn hc) hn xs hown1 ⟨w.heap.size, 0, none⟩ 1 1 ([.int .i64 x]) rfl
          (fun j u hj => by
            rw [Go.WideShapes.add_plain, World.cell?_alloc_at _ _ _ _ (by simp)]
            simpa using hj)
          (fun u hu => by simp at hu; subst hu; rfl) (by unfold maxLen; omega) (by omega) (by simp; omega)
        unfold Oper.wp
        rw [run_append_op hop.symm q59 q74 hr]
        exact ⟨_, fun s => if o.dst = some s then v' else e s, rfl, fun s => rfl, Or.inr (Or.inr ⟨Or.inl rfl, v', by simp [← hdst], fun h => by omega, ho2, hg2⟩)⟩
      · omega
    · have hat := op_at hops 17 o ho
      simp only [tabP6, List.getElem?_cons_zero, List.getElem?_cons_succ, Option.some.injEq, Prod.mk.injEq] at hat
      obtain ⟨hdst, hop⟩ := hat
      obtain ⟨h, _⟩ | ⟨h, _⟩ | ⟨_, v', h75, _, ho2, hg2⟩ := hW
      · cases h
      · cases h
      · have q75 : a.eval (.tmp 75) = v' := (hin 75 (by decide)).trans h75
        have hv : ∃ p n c, v' = .slice p n c := by
          rcases ho2.2 with ⟨h, _⟩ | ⟨g, cap, cur, h, _⟩
          · exact ⟨_, _, _, h⟩
          · exact ⟨_, _, _, h⟩
        obtain ⟨vp, vn, vc, rfl⟩ := hv
        unfold Oper.wp
        have hrun : (execOp a.eval o).run Yba.prog w' = .ok (.value (.slice vp vn vc)) w' := by
          clear hk ho hend hops hR hB hdst hin hout h75 ho2 hg2 A G hown
          generalize a.eval = ρ at *
          unfold execOp; rw [← hop]; go_simp
        rw [hrun]
        exact ⟨_, fun s => if o.dst = some s then .slice vp vn vc else e s, rfl, fun s => rfl, Or.inr (Or.inr ⟨Or.inr rfl, _, by simp [← hdst, h75], fun _ => by simp [← hdst], ho2, hg2⟩)⟩
  · rintro e w' (⟨h, _⟩ | ⟨h, _⟩ | ⟨_, v', h75, h6', ho, hg⟩)
    · cases h
    · cases h
    · exact hend _ v' w' ho hg (h6' rfl)

set_option maxHeartbeats 2000000 in
theorem p10 {ops : Array Oper} {rid : Nat} {a0 : Act} {w : World} {Q : Exit → Act → World → Prop} (C O N t : Nat) (tx : Int) (it : ByteArray) (hp : Option Addr) (hn hc : Nat) (B : Cp) (rv : Value) (hv : rv = .nilIface ∨ ∃ T p, rv = .iface T p) (ht : t < N)
    (hm : Yba.prog.follows .mixedOrders = true) (hsz : a0.tmps.size = 108) (hops : ops.toList.map (fun o => (o.dst, o.op)) = tabP10) (hB : threadB ops [22, 25] isP10 DP10 108 = true) (hR : readsB ops inP10 outP10 = true)
    (h0 : a0.eval (.tmp 0) = .pointer (some ⟨C, 0, none⟩)) (h2 : a0.eval (.tmp 2) = .int .i32 t) (h6 : a0.eval (.tmp 6) = .slice hp hn hc)
    (W : Nat → World → Prop) (hw0 : W 0 w.drew) (hrd : ∀ k w, W k w → w.cell? ⟨C, 29, none⟩ = some (.func (.func 10) #[] B.vals) ∧ w.cell? ⟨C, 0, none⟩ = some (.slice (some ⟨O, 0, none⟩) N N) ∧ w.cell? ⟨O, t * 3, none⟩ = some (.int .u8 114) ∧ w.cell? ⟨O, t * 3 + 1, none⟩ = some (.int .i64 tx) ∧ w.cell? ⟨O, t * 3 + 2, none⟩ = some (.string it))
    (hcall : ∀ w, W 0 w → Calls Yba.prog 10 #[.agg #[.int .i64 tx, .int .u8 114, .int .i64 tx, .string it, .slice hp hn hc], .pointer (some ⟨B.c, 0, none⟩), .pointer (some ⟨B.g, 0, none⟩), .pointer (some ⟨B.h, 0, none⟩), .pointer (some ⟨B.f, 0, none⟩), .pointer (some ⟨B.s, 0, none⟩)] w fun e w' => e = .returned rv ∧ W 1 w')
    (hst : ∀ w, W 1 w → w.frozen? ⟨C, 31, none⟩ = false ∧ (∃ v, w.cell? ⟨C, 31, none⟩ = some v) ∧ W 2 (w.setCell ⟨C, 31, none⟩ rv))
    (hend : ∀ x w', W 2 w' → Q .normal (lay DP10 x a0) w') :
    (Code.region rid ops true).wp Yba.prog Q a0 w := by
  refine wp_region_thread hm [22, 25] isP10 DP10 (by rw [hsz]; exact hB) inP10 outP10 hR (VP10 C O N t tx it hp hn hc B.vals) (fun k e w => W k w ∧ (1 ≤ k → e 105 = rv)) (fun _ => undef) ⟨hw0, fun h => absurd h (by omega)⟩ ?_ ?_ (fun e w h => hend _ w h.1)
  · intro i o d a e k w ho hc' hd hin hout hk hW
    obtain ⟨r1, r2, r3, r4, r5⟩ := hrd k w hW.1
    exact P10_pure C O N t tx it hp hn hc B.vals hops h0 h2 h6 i o d a e w ho hc' hd hin hout ht r1 r2 r3 r4 r5
  · intro k o a e w hk ho hin hout hW
    have hk2 : k = 0 ∨ k = 1 := by simp at hk; omega
    rcases hk2 with rfl | rfl
    · have hat := op_at hops 22 o ho
      simp only [tabP10, List.getElem?_cons_zero, List.getElem?_cons_succ, Option.some.injEq, Prod.mk.injEq] at hat
      obtain ⟨hdst, hop⟩ := hat
      have q87 : a.eval (.tmp 87) = .func (.func 10) #[] B.vals := hin 87 (by decide)
      have q104 : a.eval (.tmp 104) = .agg #[.int .i64 tx, .int .u8 114, .int .i64 tx, .string it, .slice hp hn hc] := hin 104 (by decide)
      unfold Oper.wp
      have hrun : (execOp a.eval o).run Yba.prog w = .ok (.enter 10 #[.agg #[.int .i64 tx, .int .u8 114, .int .i64 tx, .string it, .slice hp hn hc], .pointer (some ⟨B.c, 0, none⟩), .pointer (some ⟨B.g, 0, none⟩), .pointer (some ⟨B.h, 0, none⟩), .pointer (some ⟨B.f, 0, none⟩), .pointer (some ⟨B.s, 0, none⟩)]) w := by
        clear hk ho hW hend hst hcall hops hR hB hrd hw0 hdst
        unfold Cp.vals at q87
        generalize a.eval = ρ at *
        unfold execOp; rw [← hop]; go_simp
      rw [hrun]
      refine enter_upon (hcall w hW.1) fun w' hw' => ?_
      exact ⟨_, fun s => if o.dst = some s then rv else e s, rfl, fun s => rfl, hw', fun _ => by simp [← hdst]⟩
    · have hat := op_at hops 25 o ho
      simp only [tabP10, List.getElem?_cons_zero, List.getElem?_cons_succ, Option.some.injEq, Prod.mk.injEq] at hat
      obtain ⟨hdst, hop⟩ := hat
      have q107 : a.eval (.tmp 107) = .pointer (some ⟨C, 31, none⟩) := hin 107 (by decide)
      have q105 : a.eval (.tmp 105) = rv := (hin 105 (by decide)).trans (hW.2 (by omega))
      obtain ⟨f1, ⟨v, c1⟩, hw2⟩ := hst w hW.1
      unfold Oper.wp
      have hrun : (execOp a.eval o).run Yba.prog w = .ok .skip (w.setCell ⟨C, 31, none⟩ rv) := by
        clear hk ho hW hend hst hcall hops hR hB hrd hw0 hdst hin hout
        generalize a.eval = ρ at *
        rcases hv with rfl | ⟨T, p, rfl⟩
        · unfold execOp; rw [← hop]; go_simp
        · unfold execOp; rw [← hop]; go_simp
      rw [hrun]
      exact ⟨_, fun s => if o.dst = some s then undef else e s, rfl, fun s => rfl, hw2, fun _ => by simp [← hdst, hW.2 (by omega)]⟩

end Go.Proofs.Ybulkhwa

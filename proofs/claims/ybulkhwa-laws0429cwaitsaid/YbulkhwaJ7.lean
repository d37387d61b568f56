import Derived.Test.YbulkhwaJ6
namespace Go.Proofs.Ybulkhwa
open Go.RowKit Go.Pool

def tabJ7 : List (Option Nat × Op) := [(some 66, .move (.tmp 0)),
  (some 67, .nilCheck (.tmp 66)),
  (some 68, .fieldAddr 89 (.tmp 67) 21),
  (some 69, .load 61 (.tmp 68)),
  (some 70, .move (.tmp 6)),
  (some 71, .move (.tmp 0)),
  (some 72, .move (.tmp 0)),
  (some 73, .nilCheck (.tmp 72)),
  (some 74, .fieldAddr 89 (.tmp 73) 21),
  (some 75, .load 61 (.tmp 74)),
  (some 76, .move (.tmp 6)),
  (some 77, .indexAddr 61 (.tmp 75) (.tmp 76)),
  (some 78, .fieldAddr 64 (.tmp 77) 2),
  (some 79, .load 21 (.tmp 78)),
  (some 80, .move (.tmp 1)),
  (some 81, .call { callee := .value (.func 25), args := #[.tmp 71, .tmp 79, .tmp 80], argTypes := #[76, 21, 21] }),
  (some 82, .indexAddr 61 (.tmp 69) (.tmp 70)),
  (some 83, .fieldAddr 64 (.tmp 82) 2),
  (none, .store 21 (.tmp 83) (.tmp 81))]
def DJ7 : List Nat := [66, 67, 68, 69, 70, 71, 72, 73, 74, 75, 76, 77, 78, 79, 80, 81, 82, 83]
def isJ7 : Nat → Bool := fun s => s == 81
def inJ7 : List (Nat × Nat) := [(1, 66), (2, 67), (3, 68), (7, 72), (8, 73), (9, 74), (11, 75), (11, 76), (12, 77), (13, 78), (15, 71), (15, 79), (15, 80), (16, 69), (16, 70), (17, 82), (18, 83), (18, 81)]
def outJ7 : List (Nat × Nat) := [(0, 0), (4, 6), (5, 0), (6, 0), (10, 6), (14, 1)]
def VJ7 (C lb ln lc id t : Nat) (root : Int) : Nat → Value := fun s => if s = 66 then .pointer (some ⟨C, 0, none⟩) else if s = 67 then .pointer (some ⟨C, 0, none⟩) else if s = 68 then .pointer (some ⟨C, 21, none⟩) else if s = 69 then .slice (some ⟨lb, 0, none⟩) ln lc else if s = 70 then .int .i32 id else if s = 71 then .pointer (some ⟨C, 0, none⟩) else if s = 72 then .pointer (some ⟨C, 0, none⟩) else if s = 73 then .pointer (some ⟨C, 0, none⟩) else if s = 74 then .pointer (some ⟨C, 21, none⟩) else if s = 75 then .slice (some ⟨lb, 0, none⟩) ln lc else if s = 76 then .int .i32 id else if s = 77 then .pointer (some ⟨lb, id * 3, none⟩) else if s = 78 then .pointer (some ⟨lb, id * 3 + 2, none⟩) else if s = 79 then .int .i32 root else if s = 80 then .int .i32 t else if s = 82 then .pointer (some ⟨lb, id * 3, none⟩) else if s = 83 then .pointer (some ⟨lb, id * 3 + 2, none⟩) else undef

set_option maxHeartbeats 2000000 in
theorem J7_pure (C lb ln lc id t : Nat) (root : Int) {ops : Array Oper} {a0 : Act} (hops : ops.toList.map (fun o => (o.dst, o.op)) = tabJ7)
    (h0 : a0.eval (.tmp 0) = .pointer (some ⟨C, 0, none⟩)) (h6 : a0.eval (.tmp 6) = .int .i32 id) (h1 : a0.eval (.tmp 1) = .int .i32 t)
    (i : Nat) (o : Oper) (d : Nat) (a : Act) (e : Nat → Value) (w : World) (ho : ops[i]? = some o) (hc' : [15, 18].contains i = false) (hd : o.dst = some d)
    (hin : ∀ s, (i, s) ∈ inJ7 → a.eval (.tmp s) = mix isJ7 (VJ7 C lb ln lc id t root) e s) (hout : ∀ s, (i, s) ∈ outJ7 → a.eval (.tmp s) = a0.eval (.tmp s)) (hid : id < ln) (c21 : w.cell? ⟨C, 21, none⟩ = some (.slice (some ⟨lb, 0, none⟩) ln lc)) (hrt : i = 13 → w.cell? ⟨lb, id * 3 + 2, none⟩ = some (.int .i32 root)) :
    (execOp a.eval o).run Yba.prog w = .ok (.value (VJ7 C lb ln lc id t root d)) w := by
  have hlen : ops.size = 19 := by
    have := congrArg List.length hops
    simpa [tabJ7] using this
  have hlt : i < 19 := by rw [← hlen]; exact (Array.getElem?_eq_some_iff.1 ho).1
  have hat := op_at hops i o ho
  have hid' : (id : Int) < (ln : Int) := by omega
  clear hops hlen
  have hi : i = 0 ∨ i = 1 ∨ i = 2 ∨ i = 3 ∨ i = 4 ∨ i = 5 ∨ i = 6 ∨ i = 7 ∨ i = 8 ∨ i = 9 ∨ i = 10 ∨ i = 11 ∨ i = 12 ∨ i = 13 ∨ i = 14 ∨ i = 15 ∨ i = 16 ∨ i = 17 ∨ i = 18 := by omega
  rcases hi with rfl | rfl | rfl | rfl | rfl | rfl | rfl | rfl | rfl | rfl | rfl | rfl | rfl | rfl | rfl | rfl | rfl | rfl | rfl
  all_goals
    simp only [tabJ7, List.getElem?_cons_zero, List.getElem?_cons_succ, Option.some.injEq, Prod.mk.injEq] at hat
    obtain ⟨hdst, hop⟩ := hat
    rw [← hdst] at hd
    try cases hd
    try exact absurd hc' (by decide)
  · have q0 : a.eval (.tmp 0) = .pointer (some ⟨C, 0, none⟩) := (hout 0 (by decide)).trans h0
    show (execOp a.eval o).run Yba.prog w = .ok (.value (.pointer (some ⟨C, 0, none⟩))) w
    clear hdst hc' ho
    generalize a.eval = ρ at *
    unfold execOp; rw [← hop]; go_simp
  · have q66 : a.eval (.tmp 66) = .pointer (some ⟨C, 0, none⟩) := hin 66 (by decide)
    show (execOp a.eval o).run Yba.prog w = .ok (.value (.pointer (some ⟨C, 0, none⟩))) w
    clear hdst hc' ho
    generalize a.eval = ρ at *
    unfold execOp; rw [← hop]; go_simp
  · have q67 : a.eval (.tmp 67) = .pointer (some ⟨C, 0, none⟩) := hin 67 (by decide)
    show (execOp a.eval o).run Yba.prog w = .ok (.value (.pointer (some ⟨C, 21, none⟩))) w
    clear hdst hc' ho
    generalize a.eval = ρ at *
    unfold execOp; rw [← hop]; go_simp
  · have q68 : a.eval (.tmp 68) = .pointer (some ⟨C, 21, none⟩) := hin 68 (by decide)
    show (execOp a.eval o).run Yba.prog w = .ok (.value (.slice (some ⟨lb, 0, none⟩) ln lc)) w
    clear hdst hc' ho
    generalize a.eval = ρ at *
    unfold execOp; rw [← hop]; go_simp
  · have q6 : a.eval (.tmp 6) = .int .i32 id := (hout 6 (by decide)).trans h6
    show (execOp a.eval o).run Yba.prog w = .ok (.value (.int .i32 id)) w
    clear hdst hc' ho
    generalize a.eval = ρ at *
    unfold execOp; rw [← hop]; go_simp
  · have q0 : a.eval (.tmp 0) = .pointer (some ⟨C, 0, none⟩) := (hout 0 (by decide)).trans h0
    show (execOp a.eval o).run Yba.prog w = .ok (.value (.pointer (some ⟨C, 0, none⟩))) w
    clear hdst hc' ho
    generalize a.eval = ρ at *
    unfold execOp; rw [← hop]; go_simp
  · have q0 : a.eval (.tmp 0) = .pointer (some ⟨C, 0, none⟩) := (hout 0 (by decide)).trans h0
    show (execOp a.eval o).run Yba.prog w = .ok (.value (.pointer (some ⟨C, 0, none⟩))) w
    clear hdst hc' ho
    generalize a.eval = ρ at *
    unfold execOp; rw [← hop]; go_simp
  · have q72 : a.eval (.tmp 72) = .pointer (some ⟨C, 0, none⟩) := hin 72 (by decide)
    show (execOp a.eval o).run Yba.prog w = .ok (.value (.pointer (some ⟨C, 0, none⟩))) w
    clear hdst hc' ho
    generalize a.eval = ρ at *
    unfold execOp; rw [← hop]; go_simp
  · have q73 : a.eval (.tmp 73) = .pointer (some ⟨C, 0, none⟩) := hin 73 (by decide)
    show (execOp a.eval o).run Yba.prog w = .ok (.value (.pointer (some ⟨C, 21, none⟩))) w
    clear hdst hc' ho
    generalize a.eval = ρ at *
    unfold execOp; rw [← hop]; go_simp
  · have q74 : a.eval (.tmp 74) = .pointer (some ⟨C, 21, none⟩) := hin 74 (by decide)
    show (execOp a.eval o).run Yba.prog w = .ok (.value (.slice (some ⟨lb, 0, none⟩) ln lc)) w
    clear hdst hc' ho
    generalize a.eval = ρ at *
    unfold execOp; rw [← hop]; go_simp
  · have q6 : a.eval (.tmp 6) = .int .i32 id := (hout 6 (by decide)).trans h6
    show (execOp a.eval o).run Yba.prog w = .ok (.value (.int .i32 id)) w
    clear hdst hc' ho
    generalize a.eval = ρ at *
    unfold execOp; rw [← hop]; go_simp
  · have q75 : a.eval (.tmp 75) = .slice (some ⟨lb, 0, none⟩) ln lc := hin 75 (by decide)
    have q76 : a.eval (.tmp 76) = .int .i32 id := hin 76 (by decide)
    show (execOp a.eval o).run Yba.prog w = .ok (.value (.pointer (some ⟨lb, id * 3, none⟩))) w
    clear hdst hc' ho
    generalize a.eval = ρ at *
    unfold execOp; rw [← hop]; go_simp
  · have q77 : a.eval (.tmp 77) = .pointer (some ⟨lb, id * 3, none⟩) := hin 77 (by decide)
    show (execOp a.eval o).run Yba.prog w = .ok (.value (.pointer (some ⟨lb, id * 3 + 2, none⟩))) w
    clear hdst hc' ho
    generalize a.eval = ρ at *
    unfold execOp; rw [← hop]; go_simp
  · have q78 : a.eval (.tmp 78) = .pointer (some ⟨lb, id * 3 + 2, none⟩) := hin 78 (by decide)
    have st := hrt rfl
    show (execOp a.eval o).run Yba.prog w = .ok (.value (.int .i32 root)) w
    clear hdst hc' ho
    generalize a.eval = ρ at *
    unfold execOp; rw [← hop]; go_simp
  · have q1 : a.eval (.tmp 1) = .int .i32 t := (hout 1 (by decide)).trans h1
    show (execOp a.eval o).run Yba.prog w = .ok (.value (.int .i32 t)) w
    clear hdst hc' ho
    generalize a.eval = ρ at *
    unfold execOp; rw [← hop]; go_simp
  · have q69 : a.eval (.tmp 69) = .slice (some ⟨lb, 0, none⟩) ln lc := hin 69 (by decide)
    have q70 : a.eval (.tmp 70) = .int .i32 id := hin 70 (by decide)
    show (execOp a.eval o).run Yba.prog w = .ok (.value (.pointer (some ⟨lb, id * 3, none⟩))) w
    clear hdst hc' ho
    generalize a.eval = ρ at *
    unfold execOp; rw [← hop]; go_simp
  · have q82 : a.eval (.tmp 82) = .pointer (some ⟨lb, id * 3, none⟩) := hin 82 (by decide)
    show (execOp a.eval o).run Yba.prog w = .ok (.value (.pointer (some ⟨lb, id * 3 + 2, none⟩))) w
    clear hdst hc' ho
    generalize a.eval = ρ at *
    unfold execOp; rw [← hop]; go_simp

theorem r7 {ops : Array Oper} {rid : Nat} {a0 : Act} {w : World} {Q : Exit → Act → World → Prop} (C lb ln lc id t : Nat) (root res : Int) (hid : id < ln)
    (hm : Yba.prog.follows .mixedOrders = true) (hsz : a0.tmps.size = 91) (hops : ops.toList.map (fun o => (o.dst, o.op)) = tabJ7) (hB : threadB ops [15, 18] isJ7 DJ7 91 = true) (hR : readsB ops inJ7 outJ7 = true) (hx : waits ops 15 13 = true)
    (h0 : a0.eval (.tmp 0) = .pointer (some ⟨C, 0, none⟩)) (h6 : a0.eval (.tmp 6) = .int .i32 id) (h1 : a0.eval (.tmp 1) = .int .i32 t)
    (W : Nat → World → Prop) (hw0 : W 0 w.drew) (hc : ∀ k w, W k w → w.cell? ⟨C, 21, none⟩ = some (.slice (some ⟨lb, 0, none⟩) ln lc)) (hrt : ∀ w, W 0 w → w.cell? ⟨lb, id * 3 + 2, none⟩ = some (.int .i32 root))
    (hcall : ∀ w, W 0 w → Calls Yba.prog 25 #[.pointer (some ⟨C, 0, none⟩), .int .i32 root, .int .i32 t] w fun e w' => e = .returned (.int .i32 res) ∧ W 1 w')
    (hst : ∀ w, W 1 w → w.frozen? ⟨lb, id * 3 + 2, none⟩ = false ∧ (∃ v, w.cell? ⟨lb, id * 3 + 2, none⟩ = some v) ∧ W 2 (w.setCell ⟨lb, id * 3 + 2, none⟩ (.int .i32 res)))
    (hend : ∀ x w', W 2 w' → Q .normal (lay DJ7 x a0) w') :
    (Code.region rid ops true).wp Yba.prog Q a0 w := by
  refine wp_region_thread hm [15, 18] isJ7 DJ7 (by rw [hsz]; exact hB) inJ7 outJ7 hR (VJ7 C lb ln lc id t root) (fun k e w => W k w ∧ (1 ≤ k → e 81 = .int .i32 res)) (fun _ => undef) ⟨hw0, fun h => absurd h (by omega)⟩ ?_ ?_ (fun e w h => hend _ w h.1)
  · intro i o d a e k w ho hc' hd hin hout hk hW
    refine J7_pure C lb ln lc id t root hops h0 h6 h1 i o d a e w ho hc' hd hin hout hid (hc k w hW.1) (fun hi => ?_)
    subst hi
    have : k ≤ 0 := hk 0 (by simp) hx
    obtain rfl : k = 0 := by omega
    exact hrt w hW.1
  · intro k o a e w hk ho hin hout hW
    have hk2 : k = 0 ∨ k = 1 := by simp at hk; omega
    rcases hk2 with rfl | rfl
    · have hat := op_at hops 15 o ho
      simp only [tabJ7, List.getElem?_cons_zero, List.getElem?_cons_succ, Option.some.injEq, Prod.mk.injEq] at hat
      obtain ⟨hdst, hop⟩ := hat
      have q71 : a.eval (.tmp 71) = .pointer (some ⟨C, 0, none⟩) := hin 71 (by decide)
      have q79 : a.eval (.tmp 79) = .int .i32 root := hin 79 (by decide)
      have q80 : a.eval (.tmp 80) = .int .i32 t := hin 80 (by decide)
      have qf : a.eval (.func 25) = .func (.func 25) #[] #[] := rfl
      unfold Oper.wp
      have hrun : (execOp a.eval o).run Yba.prog w = .ok (.enter 25 #[.pointer (some ⟨C, 0, none⟩), .int .i32 root, .int .i32 t]) w := by
        clear hk ho hW hend hst hcall hops hR hB hc hw0 hdst hrt
        generalize a.eval = ρ at *
        unfold execOp; rw [← hop]; go_simp
      rw [hrun]
      refine enter_upon (hcall w hW.1) fun w' hw' => ?_
      exact ⟨_, fun s => if o.dst = some s then .int .i32 res else e s, rfl, fun s => rfl, hw', fun _ => by simp [← hdst]⟩
    · have hat := op_at hops 18 o ho
      simp only [tabJ7, List.getElem?_cons_zero, List.getElem?_cons_succ, Option.some.injEq, Prod.mk.injEq] at hat
      obtain ⟨hdst, hop⟩ := hat
      have q83 : a.eval (.tmp 83) = .pointer (some ⟨lb, id * 3 + 2, none⟩) := hin 83 (by decide)
      have q81 : a.eval (.tmp 81) = .int .i32 res := (hin 81 (by decide)).trans (hW.2 (by omega))
      obtain ⟨f1, ⟨v, c1⟩, hw2⟩ := hst w hW.1
      unfold Oper.wp
      have hrun : (execOp a.eval o).run Yba.prog w = .ok .skip (w.setCell ⟨lb, id * 3 + 2, none⟩ (.int .i32 res)) := by
        clear hk ho hW hend hst hcall hops hR hB hc hw0 hdst hrt
        generalize a.eval = ρ at *
        unfold execOp; rw [← hop]; go_simp
      rw [hrun]
      exact ⟨_, fun s => if o.dst = some s then undef else e s, rfl, fun s => rfl, hw2, fun _ => by simp [← hdst, hW.2 (by omega)]⟩

end Go.Proofs.Ybulkhwa

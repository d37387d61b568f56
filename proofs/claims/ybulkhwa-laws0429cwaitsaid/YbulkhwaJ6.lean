import Derived.Test.YbulkhwaIns
import Derived.Test.YbulkhwaThread
namespace Go.Proofs.Ybulkhwa
open Go.RowKit Go.Pool

/-- an operation's row in the table -/
theorem op_at {ops : Array Oper} {T : List (Option Nat × Op)} (h : ops.toList.map (fun o => (o.dst, o.op)) = T) (i : Nat) (o : Oper) (ho : ops[i]? = some o) : T[i]? = some (o.dst, o.op) := by
  rw [← h, List.getElem?_map]
  have : ops.toList[i]? = some o := by simpa using ho
  rw [this]; rfl

def tabJ6 : List (Option Nat × Op) := [(some 56, .move (.tmp 0)), (some 57, .nilCheck (.tmp 56)), (some 58, .fieldAddr 89 (.tmp 57) 24), (some 59, .load 65 (.tmp 58)), (some 60, .move (.tmp 1)), (some 61, .move (.tmp 0)), (some 62, .move (.tmp 1)), (some 63, .call { callee := .value (.func 24), args := #[.tmp 61, .tmp 62], argTypes := #[76, 21] }), (some 64, .indexAddr 65 (.tmp 59) (.tmp 60)), (some 65, .fieldAddr 68 (.tmp 64) 2), (none, .store 2 (.tmp 65) (.tmp 63))]
def DJ6 : List Nat := [56, 57, 58, 59, 60, 61, 62, 63, 64, 65]
def isJ6 : Nat → Bool := fun s => s == 63
def inJ6 : List (Nat × Nat) := [(1, 56), (2, 57), (3, 58), (7, 61), (7, 62), (8, 59), (8, 60), (9, 64), (10, 65), (10, 63)]
def outJ6 : List (Nat × Nat) := [(0, 0), (4, 1), (5, 0), (6, 1)]
def VJ6 (C G N t : Nat) : Nat → Value := fun s => if s = 56 then .pointer (some ⟨C, 0, none⟩) else if s = 57 then .pointer (some ⟨C, 0, none⟩) else if s = 58 then .pointer (some ⟨C, 24, none⟩) else if s = 59 then .slice (some ⟨G, 0, none⟩) N N else if s = 60 then .int .i32 t else if s = 61 then .pointer (some ⟨C, 0, none⟩) else if s = 62 then .int .i32 t else if s = 64 then .pointer (some ⟨G, t * 4, none⟩) else if s = 65 then .pointer (some ⟨G, t * 4 + 2, none⟩) else undef

set_option maxHeartbeats 1000000 in
theorem r6 {ops : Array Oper} {id : Nat} {a0 : Act} {w : World} {Q : Exit → Act → World → Prop} (C G N t : Nat) (ar : Int) (ht : t < N)
    (hm : Yba.prog.follows .mixedOrders = true) (hsz : a0.tmps.size = 91) (hops : ops.toList.map (fun o => (o.dst, o.op)) = tabJ6) (hB : threadB ops [7, 10] isJ6 DJ6 91 = true) (hR : readsB ops inJ6 outJ6 = true)
    (h0 : a0.eval (.tmp 0) = .pointer (some ⟨C, 0, none⟩)) (h1 : a0.eval (.tmp 1) = .int .i32 t)
    (W : Nat → World → Prop) (hw0 : W 0 w.drew) (hc : ∀ k w, W k w → w.cell? ⟨C, 24, none⟩ = some (.slice (some ⟨G, 0, none⟩) N N))
    (hcall : ∀ w, W 0 w → Calls Yba.prog 24 #[.pointer (some ⟨C, 0, none⟩), .int .i32 t] w fun e w' => e = .returned (.int .i64 ar) ∧ W 1 w')
    (hst : ∀ w, W 1 w → w.frozen? ⟨G, t * 4 + 2, none⟩ = false ∧ (∃ v, w.cell? ⟨G, t * 4 + 2, none⟩ = some v) ∧ W 2 (w.setCell ⟨G, t * 4 + 2, none⟩ (.int .i64 ar)))
    (hend : ∀ x w', W 2 w' → Q .normal (lay DJ6 x a0) w') :
    (Code.region id ops true).wp Yba.prog Q a0 w := by
  have hlen : ops.size = 11 := by
    have := congrArg List.length hops
    simpa [tabJ6] using this
  refine wp_region_thread hm [7, 10] isJ6 DJ6 (by rw [hsz]; exact hB) inJ6 outJ6 hR (VJ6 C G N t) (fun k e w => W k w ∧ (1 ≤ k → e 63 = .int .i64 ar)) (fun _ => undef) ⟨hw0, fun h => absurd h (by omega)⟩ ?_ ?_ (fun e w h => hend _ w h.1)
  · intro i o d a e k w ho hc' hd hin hout hk hW
    have hlt : i < 11 := by rw [← hlen]; exact (Array.getElem?_eq_some_iff.1 ho).1
    have hat := op_at hops i o ho
    have cC := hc k w hW.1
    have ht' : (t : Int) < (N : Int) := by omega
    clear hW hk hend hst hcall hops hR hB
    have hi : i = 0 ∨ i = 1 ∨ i = 2 ∨ i = 3 ∨ i = 4 ∨ i = 5 ∨ i = 6 ∨ i = 7 ∨ i = 8 ∨ i = 9 ∨ i = 10 := by omega
    rcases hi with rfl | rfl | rfl | rfl | rfl | rfl | rfl | rfl | rfl | rfl | rfl
    all_goals
      simp only [tabJ6, List.getElem?_cons_zero, List.getElem?_cons_succ, Option.some.injEq, Prod.mk.injEq] at hat
      obtain ⟨hdst, hop⟩ := hat
      rw [← hdst] at hd
      try cases hd
    · have q0 : a.eval (.tmp 0) = .pointer (some ⟨C, 0, none⟩) := (hout 0 (by decide)).trans h0
      show (execOp a.eval o).run Yba.prog w = .ok (.value (.pointer (some ⟨C, 0, none⟩))) w
      generalize a.eval = ρ at *
      unfold execOp; rw [← hop]; go_simp
    · have q56 : a.eval (.tmp 56) = .pointer (some ⟨C, 0, none⟩) := hin 56 (by decide)
      show (execOp a.eval o).run Yba.prog w = .ok (.value (.pointer (some ⟨C, 0, none⟩))) w
      generalize a.eval = ρ at *
      unfold execOp; rw [← hop]; go_simp
    · have q57 : a.eval (.tmp 57) = .pointer (some ⟨C, 0, none⟩) := hin 57 (by decide)
      show (execOp a.eval o).run Yba.prog w = .ok (.value (.pointer (some ⟨C, 24, none⟩))) w
      generalize a.eval = ρ at *
      unfold execOp; rw [← hop]; go_simp
    · have q58 : a.eval (.tmp 58) = .pointer (some ⟨C, 24, none⟩) := hin 58 (by decide)
      show (execOp a.eval o).run Yba.prog w = .ok (.value (.slice (some ⟨G, 0, none⟩) N N)) w
      generalize a.eval = ρ at *
      unfold execOp; rw [← hop]; go_simp
    · have q1 : a.eval (.tmp 1) = .int .i32 t := (hout 1 (by decide)).trans h1
      show (execOp a.eval o).run Yba.prog w = .ok (.value (.int .i32 t)) w
      generalize a.eval = ρ at *
      unfold execOp; rw [← hop]; go_simp
    · have q0 : a.eval (.tmp 0) = .pointer (some ⟨C, 0, none⟩) := (hout 0 (by decide)).trans h0
      show (execOp a.eval o).run Yba.prog w = .ok (.value (.pointer (some ⟨C, 0, none⟩))) w
      generalize a.eval = ρ at *
      unfold execOp; rw [← hop]; go_simp
    · have q1 : a.eval (.tmp 1) = .int .i32 t := (hout 1 (by decide)).trans h1
      show (execOp a.eval o).run Yba.prog w = .ok (.value (.int .i32 t)) w
      generalize a.eval = ρ at *
      unfold execOp; rw [← hop]; go_simp
    · exact absurd hc' (by decide)
    · have q59 : a.eval (.tmp 59) = .slice (some ⟨G, 0, none⟩) N N := hin 59 (by decide)
      have q60 : a.eval (.tmp 60) = .int .i32 t := hin 60 (by decide)
      show (execOp a.eval o).run Yba.prog w = .ok (.value (.pointer (some ⟨G, t * 4, none⟩))) w
      generalize a.eval = ρ at *
      unfold execOp; rw [← hop]; go_simp
    · have q64 : a.eval (.tmp 64) = .pointer (some ⟨G, t * 4, none⟩) := hin 64 (by decide)
      show (execOp a.eval o).run Yba.prog w = .ok (.value (.pointer (some ⟨G, t * 4 + 2, none⟩))) w
      generalize a.eval = ρ at *
      unfold execOp; rw [← hop]; go_simp
  · intro k o a e w hk ho hin hout hW
    have hk2 : k = 0 ∨ k = 1 := by simp at hk; omega
    rcases hk2 with rfl | rfl
    · have hat := op_at hops 7 o ho
      simp only [tabJ6, List.getElem?_cons_zero, List.getElem?_cons_succ, Option.some.injEq, Prod.mk.injEq] at hat
      obtain ⟨hdst, hop⟩ := hat
      have q61 : a.eval (.tmp 61) = .pointer (some ⟨C, 0, none⟩) := hin 61 (by decide)
      have q62 : a.eval (.tmp 62) = .int .i32 t := hin 62 (by decide)
      have qf : a.eval (.func 24) = .func (.func 24) #[] #[] := rfl
      unfold Oper.wp
      have hrun : (execOp a.eval o).run Yba.prog w = .ok (.enter 24 #[.pointer (some ⟨C, 0, none⟩), .int .i32 t]) w := by
        clear hk ho hW hend hst hcall hops hR hB hc hw0 hdst
        generalize a.eval = ρ at *
        unfold execOp; rw [← hop]; go_simp
      rw [hrun]
      refine enter_upon (hcall w hW.1) fun w' hw' => ?_
      exact ⟨_, fun s => if o.dst = some s then .int .i64 ar else e s, rfl, fun s => rfl, hw', fun _ => by simp [← hdst]⟩
    · have hat := op_at hops 10 o ho
      simp only [tabJ6, List.getElem?_cons_zero, List.getElem?_cons_succ, Option.some.injEq, Prod.mk.injEq] at hat
      obtain ⟨hdst, hop⟩ := hat
      have q65 : a.eval (.tmp 65) = .pointer (some ⟨G, t * 4 + 2, none⟩) := hin 65 (by decide)
      have q63 : a.eval (.tmp 63) = .int .i64 ar := (hin 63 (by decide)).trans (hW.2 (by omega))
      obtain ⟨f1, ⟨v, c1⟩, hw2⟩ := hst w hW.1
      unfold Oper.wp
      have hrun : (execOp a.eval o).run Yba.prog w = .ok .skip (w.setCell ⟨G, t * 4 + 2, none⟩ (.int .i64 ar)) := by
        clear hk ho hW hend hst hcall hops hR hB hc hw0 hdst
        generalize a.eval = ρ at *
        unfold execOp; rw [← hop]; go_simp
      rw [hrun]
      exact ⟨_, fun s => if o.dst = some s then undef else e s, rfl, fun s => rfl, hw2, fun _ => by simp [← hdst, hW.2 (by omega)]⟩

end Go.Proofs.Ybulkhwa

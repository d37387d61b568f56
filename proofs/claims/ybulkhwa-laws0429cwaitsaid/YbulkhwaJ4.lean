import Derived.Test.YbulkhwaJ6
namespace Go.Proofs.Ybulkhwa
open Go.RowKit Go.Pool

def tabJ4 : List (Option Nat × Op) := [(some 25, .move (.tmp 0)),
  (some 26, .move (.tmp 0)),
  (some 27, .nilCheck (.tmp 26)),
  (some 28, .fieldAddr 89 (.tmp 27) 21),
  (some 29, .load 61 (.tmp 28)),
  (some 30, .move (.tmp 2)),
  (some 31, .move (.tmp 7)),
  (some 32, .nilCheck (.tmp 31)),
  (some 33, .fieldAddr 60 (.tmp 32) 2),
  (some 34, .load 56 (.tmp 33)),
  (some 35, .build 64 #[(0, .tmp 30), (1, .tmp 34), (2, .const (.int .i32 (-1)))]),
  (some 36, .buildSlice 61 1 #[(0, .tmp 35)]),
  (some 37, .call { callee := .builtin .append, args := #[.tmp 29, .tmp 36], argTypes := #[61, 61] }),
  (some 38, .nilCheck (.tmp 25)),
  (some 39, .fieldAddr 89 (.tmp 38) 21),
  (none, .store 61 (.tmp 39) (.tmp 37))]
def DJ4 : List Nat := [25, 26, 27, 28, 29, 30, 31, 32, 33, 34, 35, 36, 37, 38, 39]
def isJ4 : Nat → Bool := fun s => s == 36 || s == 37
def inJ4 : List (Nat × Nat) := [(2, 26), (3, 27), (4, 28), (7, 31), (8, 32), (9, 33), (10, 30), (10, 34), (11, 35), (12, 29), (12, 36), (13, 25), (14, 38), (15, 39), (15, 37)]
def outJ4 : List (Nat × Nat) := [(0, 0), (1, 0), (5, 2), (6, 7)]
def VJ4 (C I : Nat) (lp : Option Addr) (ln lc : Nat) (iv : Int) : Nat → Value := fun s => if s = 25 then .pointer (some ⟨C, 0, none⟩) else if s = 26 then .pointer (some ⟨C, 0, none⟩) else if s = 27 then .pointer (some ⟨C, 0, none⟩) else if s = 28 then .pointer (some ⟨C, 21, none⟩) else if s = 29 then .slice lp ln lc else if s = 30 then .int .i32 0 else if s = 31 then .pointer (some ⟨I, 0, none⟩) else if s = 32 then .pointer (some ⟨I, 0, none⟩) else if s = 33 then .pointer (some ⟨I, 2, none⟩) else if s = 34 then .int .u32 iv else if s = 35 then .agg #[.int .i32 0, .int .u32 iv, .int .i32 (-1)] else if s = 38 then .pointer (some ⟨C, 0, none⟩) else if s = 39 then .pointer (some ⟨C, 21, none⟩) else undef

set_option maxHeartbeats 2000000 in
theorem J4_pure (C I : Nat) (lp : Option Addr) (ln lc : Nat) (iv : Int) {ops : Array Oper} {a0 : Act} (hops : ops.toList.map (fun o => (o.dst, o.op)) = tabJ4)
    (h0 : a0.eval (.tmp 0) = .pointer (some ⟨C, 0, none⟩)) (h2 : a0.eval (.tmp 2) = .int .i32 0) (h7 : a0.eval (.tmp 7) = .pointer (some ⟨I, 0, none⟩))
    (i : Nat) (o : Oper) (d : Nat) (a : Act) (e : Nat → Value) (w : World) (ho : ops[i]? = some o) (hc' : [11, 12, 15].contains i = false) (hd : o.dst = some d)
    (hin : ∀ s, (i, s) ∈ inJ4 → a.eval (.tmp s) = mix isJ4 (VJ4 C I lp ln lc iv) e s) (hout : ∀ s, (i, s) ∈ outJ4 → a.eval (.tmp s) = a0.eval (.tmp s)) (c21 : i = 4 → w.cell? ⟨C, 21, none⟩ = some (.slice lp ln lc)) (cI : w.cell? ⟨I, 2, none⟩ = some (.int .u32 iv)) :
    (execOp a.eval o).run Yba.prog w = .ok (.value (VJ4 C I lp ln lc iv d)) w := by
  have hlen : ops.size = 16 := by
    have := congrArg List.length hops
    simpa [tabJ4] using this
  have hlt : i < 16 := by rw [← hlen]; exact (Array.getElem?_eq_some_iff.1 ho).1
  have hat := op_at hops i o ho
  clear hops hlen
  have hi : i = 0 ∨ i = 1 ∨ i = 2 ∨ i = 3 ∨ i = 4 ∨ i = 5 ∨ i = 6 ∨ i = 7 ∨ i = 8 ∨ i = 9 ∨ i = 10 ∨ i = 11 ∨ i = 12 ∨ i = 13 ∨ i = 14 ∨ i = 15 := by omega
  rcases hi with rfl | rfl | rfl | rfl | rfl | rfl | rfl | rfl | rfl | rfl | rfl | rfl | rfl | rfl | rfl | rfl
  all_goals
    simp only [tabJ4, List.getElem?_cons_zero, List.getElem?_cons_succ, Option.some.injEq, Prod.mk.injEq] at hat
    obtain ⟨hdst, hop⟩ := hat
    rw [← hdst] at hd
    try cases hd
    try exact absurd hc' (by decide)
  · have q0 : a.eval (.tmp 0) = .pointer (some ⟨C, 0, none⟩) := (hout 0 (by decide)).trans h0
    show (execOp a.eval o).run Yba.prog w = .ok (.value (.pointer (some ⟨C, 0, none⟩))) w
    clear hdst hc' ho
    have qc : ∀ v, a.eval (.const v) = v := fun _ => rfl
    generalize a.eval = ρ at *
    unfold execOp; rw [← hop]; go_simp
  · have q0 : a.eval (.tmp 0) = .pointer (some ⟨C, 0, none⟩) := (hout 0 (by decide)).trans h0
    show (execOp a.eval o).run Yba.prog w = .ok (.value (.pointer (some ⟨C, 0, none⟩))) w
    clear hdst hc' ho
    have qc : ∀ v, a.eval (.const v) = v := fun _ => rfl
    generalize a.eval = ρ at *
    unfold execOp; rw [← hop]; go_simp
  · have q26 : a.eval (.tmp 26) = .pointer (some ⟨C, 0, none⟩) := hin 26 (by decide)
    show (execOp a.eval o).run Yba.prog w = .ok (.value (.pointer (some ⟨C, 0, none⟩))) w
    clear hdst hc' ho
    have qc : ∀ v, a.eval (.const v) = v := fun _ => rfl
    generalize a.eval = ρ at *
    unfold execOp; rw [← hop]; go_simp
  · have q27 : a.eval (.tmp 27) = .pointer (some ⟨C, 0, none⟩) := hin 27 (by decide)
    show (execOp a.eval o).run Yba.prog w = .ok (.value (.pointer (some ⟨C, 21, none⟩))) w
    clear hdst hc' ho
    have qc : ∀ v, a.eval (.const v) = v := fun _ => rfl
    generalize a.eval = ρ at *
    unfold execOp; rw [← hop]; go_simp
  · have q28 : a.eval (.tmp 28) = .pointer (some ⟨C, 21, none⟩) := hin 28 (by decide)
    have st := c21 rfl
    show (execOp a.eval o).run Yba.prog w = .ok (.value (.slice lp ln lc)) w
    clear hdst hc' ho
    have qc : ∀ v, a.eval (.const v) = v := fun _ => rfl
    generalize a.eval = ρ at *
    unfold execOp; rw [← hop]; go_simp
  · have q2 : a.eval (.tmp 2) = .int .i32 0 := (hout 2 (by decide)).trans h2
    show (execOp a.eval o).run Yba.prog w = .ok (.value (.int .i32 0)) w
    clear hdst hc' ho
    have qc : ∀ v, a.eval (.const v) = v := fun _ => rfl
    generalize a.eval = ρ at *
    unfold execOp; rw [← hop]; go_simp
  · have q7 : a.eval (.tmp 7) = .pointer (some ⟨I, 0, none⟩) := (hout 7 (by decide)).trans h7
    show (execOp a.eval o).run Yba.prog w = .ok (.value (.pointer (some ⟨I, 0, none⟩))) w
    clear hdst hc' ho
    have qc : ∀ v, a.eval (.const v) = v := fun _ => rfl
    generalize a.eval = ρ at *
    unfold execOp; rw [← hop]; go_simp
  · have q31 : a.eval (.tmp 31) = .pointer (some ⟨I, 0, none⟩) := hin 31 (by decide)
    show (execOp a.eval o).run Yba.prog w = .ok (.value (.pointer (some ⟨I, 0, none⟩))) w
    clear hdst hc' ho
    have qc : ∀ v, a.eval (.const v) = v := fun _ => rfl
    generalize a.eval = ρ at *
    unfold execOp; rw [← hop]; go_simp
  · have q32 : a.eval (.tmp 32) = .pointer (some ⟨I, 0, none⟩) := hin 32 (by decide)
    show (execOp a.eval o).run Yba.prog w = .ok (.value (.pointer (some ⟨I, 2, none⟩))) w
    clear hdst hc' ho
    have qc : ∀ v, a.eval (.const v) = v := fun _ => rfl
    generalize a.eval = ρ at *
    unfold execOp; rw [← hop]; go_simp
  · have q33 : a.eval (.tmp 33) = .pointer (some ⟨I, 2, none⟩) := hin 33 (by decide)
    show (execOp a.eval o).run Yba.prog w = .ok (.value (.int .u32 iv)) w
    clear hdst hc' ho
    have qc : ∀ v, a.eval (.const v) = v := fun _ => rfl
    generalize a.eval = ρ at *
    unfold execOp; rw [← hop]; go_simp
  · have q30 : a.eval (.tmp 30) = .int .i32 0 := hin 30 (by decide)
    have q34 : a.eval (.tmp 34) = .int .u32 iv := hin 34 (by decide)
    show (execOp a.eval o).run Yba.prog w = .ok (.value (.agg #[.int .i32 0, .int .u32 iv, .int .i32 (-1)])) w
    clear hdst hc' ho
    have qc : ∀ v, a.eval (.const v) = v := fun _ => rfl
    generalize a.eval = ρ at *
    unfold execOp; rw [← hop]; go_simp
  · have q25 : a.eval (.tmp 25) = .pointer (some ⟨C, 0, none⟩) := hin 25 (by decide)
    show (execOp a.eval o).run Yba.prog w = .ok (.value (.pointer (some ⟨C, 0, none⟩))) w
    clear hdst hc' ho
    have qc : ∀ v, a.eval (.const v) = v := fun _ => rfl
    generalize a.eval = ρ at *
    unfold execOp; rw [← hop]; go_simp
  · have q38 : a.eval (.tmp 38) = .pointer (some ⟨C, 0, none⟩) := hin 38 (by decide)
    show (execOp a.eval o).run Yba.prog w = .ok (.value (.pointer (some ⟨C, 21, none⟩))) w
    clear hdst hc' ho
    have qc : ∀ v, a.eval (.const v) = v := fun _ => rfl
    generalize a.eval = ρ at *
    unfold execOp; rw [← hop]; go_simp

def tabJ5 : List (Option Nat × Op) := [(some 40, .move (.tmp 0)),
  (some 41, .nilCheck (.tmp 40)),
  (some 42, .fieldAddr 89 (.tmp 41) 22),
  (some 43, .load 62 (.tmp 42)),
  (some 44, .move (.tmp 2)),
  (some 45, .move (.tmp 0)),
  (some 46, .nilCheck (.tmp 45)),
  (some 47, .fieldAddr 89 (.tmp 46) 22),
  (some 48, .load 62 (.tmp 47)),
  (some 49, .move (.tmp 2)),
  (some 50, .indexAddr 62 (.tmp 48) (.tmp 49)),
  (some 51, .load 24 (.tmp 50)),
  (some 52, .move (.tmp 6)),
  (some 53, .buildSlice 24 1 #[(0, .tmp 52)]),
  (some 54, .call { callee := .builtin .append, args := #[.tmp 51, .tmp 53], argTypes := #[24, 24] }),
  (some 55, .indexAddr 62 (.tmp 43) (.tmp 44)),
  (none, .store 24 (.tmp 55) (.tmp 54))]
def DJ5 : List Nat := [40, 41, 42, 43, 44, 45, 46, 47, 48, 49, 50, 51, 52, 53, 54, 55]
def isJ5 : Nat → Bool := fun s => s == 53 || s == 54
def inJ5 : List (Nat × Nat) := [(1, 40), (2, 41), (3, 42), (6, 45), (7, 46), (8, 47), (10, 48), (10, 49), (11, 50), (13, 52), (14, 51), (14, 53), (15, 43), (15, 44), (16, 55), (16, 54)]
def outJ5 : List (Nat × Nat) := [(0, 0), (4, 2), (5, 0), (9, 2), (12, 6)]
def VJ5 (C F : Nat) (fp : Option Addr) (fn fc id : Nat) : Nat → Value := fun s => if s = 40 then .pointer (some ⟨C, 0, none⟩) else if s = 41 then .pointer (some ⟨C, 0, none⟩) else if s = 42 then .pointer (some ⟨C, 22, none⟩) else if s = 43 then .slice (some ⟨F, 0, none⟩) 1 1 else if s = 44 then .int .i32 0 else if s = 45 then .pointer (some ⟨C, 0, none⟩) else if s = 46 then .pointer (some ⟨C, 0, none⟩) else if s = 47 then .pointer (some ⟨C, 22, none⟩) else if s = 48 then .slice (some ⟨F, 0, none⟩) 1 1 else if s = 49 then .int .i32 0 else if s = 50 then .pointer (some ⟨F, 0, none⟩) else if s = 51 then .slice fp fn fc else if s = 52 then .int .i32 id else if s = 55 then .pointer (some ⟨F, 0, none⟩) else undef

set_option maxHeartbeats 2000000 in
theorem J5_pure (C F : Nat) (fp : Option Addr) (fn fc id : Nat) {ops : Array Oper} {a0 : Act} (hops : ops.toList.map (fun o => (o.dst, o.op)) = tabJ5)
    (h0 : a0.eval (.tmp 0) = .pointer (some ⟨C, 0, none⟩)) (h2 : a0.eval (.tmp 2) = .int .i32 0) (h6 : a0.eval (.tmp 6) = .int .i32 id)
    (i : Nat) (o : Oper) (d : Nat) (a : Act) (e : Nat → Value) (w : World) (ho : ops[i]? = some o) (hc' : [13, 14, 16].contains i = false) (hd : o.dst = some d)
    (hin : ∀ s, (i, s) ∈ inJ5 → a.eval (.tmp s) = mix isJ5 (VJ5 C F fp fn fc id) e s) (hout : ∀ s, (i, s) ∈ outJ5 → a.eval (.tmp s) = a0.eval (.tmp s)) (c22 : w.cell? ⟨C, 22, none⟩ = some (.slice (some ⟨F, 0, none⟩) 1 1)) (cF : i = 11 → w.cell? ⟨F, 0, none⟩ = some (.slice fp fn fc)) :
    (execOp a.eval o).run Yba.prog w = .ok (.value (VJ5 C F fp fn fc id d)) w := by
  have hlen : ops.size = 17 := by
    have := congrArg List.length hops
    simpa [tabJ5] using this
  have hlt : i < 17 := by rw [← hlen]; exact (Array.getElem?_eq_some_iff.1 ho).1
  have hat := op_at hops i o ho
  clear hops hlen
  have hi : i = 0 ∨ i = 1 ∨ i = 2 ∨ i = 3 ∨ i = 4 ∨ i = 5 ∨ i = 6 ∨ i = 7 ∨ i = 8 ∨ i = 9 ∨ i = 10 ∨ i = 11 ∨ i = 12 ∨ i = 13 ∨ i = 14 ∨ i = 15 ∨ i = 16 := by omega
  rcases hi with rfl | rfl | rfl | rfl | rfl | rfl | rfl | rfl | rfl | rfl | rfl | rfl | rfl | rfl | rfl | rfl | rfl
  all_goals
    simp only [tabJ5, List.getElem?_cons_zero, List.getElem?_cons_succ, Option.some.injEq, Prod.mk.injEq] at hat
    obtain ⟨hdst, hop⟩ := hat
    rw [← hdst] at hd
    try cases hd
    try exact absurd hc' (by decide)
  · have q0 : a.eval (.tmp 0) = .pointer (some ⟨C, 0, none⟩) := (hout 0 (by decide)).trans h0
    show (execOp a.eval o).run Yba.prog w = .ok (.value (.pointer (some ⟨C, 0, none⟩))) w
    clear hdst hc' ho
    have qc : ∀ v, a.eval (.const v) = v := fun _ => rfl
    generalize a.eval = ρ at *
    unfold execOp; rw [← hop]; go_simp
  · have q40 : a.eval (.tmp 40) = .pointer (some ⟨C, 0, none⟩) := hin 40 (by decide)
    show (execOp a.eval o).run Yba.prog w = .ok (.value (.pointer (some ⟨C, 0, none⟩))) w
    clear hdst hc' ho
    have qc : ∀ v, a.eval (.const v) = v := fun _ => rfl
    generalize a.eval = ρ at *
    unfold execOp; rw [← hop]; go_simp
  · have q41 : a.eval (.tmp 41) = .pointer (some ⟨C, 0, none⟩) := hin 41 (by decide)
    show (execOp a.eval o).run Yba.prog w = .ok (.value (.pointer (some ⟨C, 22, none⟩))) w
    clear hdst hc' ho
    have qc : ∀ v, a.eval (.const v) = v := fun _ => rfl
    generalize a.eval = ρ at *
    unfold execOp; rw [← hop]; go_simp
  · have q42 : a.eval (.tmp 42) = .pointer (some ⟨C, 22, none⟩) := hin 42 (by decide)
    show (execOp a.eval o).run Yba.prog w = .ok (.value (.slice (some ⟨F, 0, none⟩) 1 1)) w
    clear hdst hc' ho
    have qc : ∀ v, a.eval (.const v) = v := fun _ => rfl
    generalize a.eval = ρ at *
    unfold execOp; rw [← hop]; go_simp
  · have q2 : a.eval (.tmp 2) = .int .i32 0 := (hout 2 (by decide)).trans h2
    show (execOp a.eval o).run Yba.prog w = .ok (.value (.int .i32 0)) w
    clear hdst hc' ho
    have qc : ∀ v, a.eval (.const v) = v := fun _ => rfl
    generalize a.eval = ρ at *
    unfold execOp; rw [← hop]; go_simp
  · have q0 : a.eval (.tmp 0) = .pointer (some ⟨C, 0, none⟩) := (hout 0 (by decide)).trans h0
    show (execOp a.eval o).run Yba.prog w = .ok (.value (.pointer (some ⟨C, 0, none⟩))) w
    clear hdst hc' ho
    have qc : ∀ v, a.eval (.const v) = v := fun _ => rfl
    generalize a.eval = ρ at *
    unfold execOp; rw [← hop]; go_simp
  · have q45 : a.eval (.tmp 45) = .pointer (some ⟨C, 0, none⟩) := hin 45 (by decide)
    show (execOp a.eval o).run Yba.prog w = .ok (.value (.pointer (some ⟨C, 0, none⟩))) w
    clear hdst hc' ho
    have qc : ∀ v, a.eval (.const v) = v := fun _ => rfl
    generalize a.eval = ρ at *
    unfold execOp; rw [← hop]; go_simp
  · have q46 : a.eval (.tmp 46) = .pointer (some ⟨C, 0, none⟩) := hin 46 (by decide)
    show (execOp a.eval o).run Yba.prog w = .ok (.value (.pointer (some ⟨C, 22, none⟩))) w
    clear hdst hc' ho
    have qc : ∀ v, a.eval (.const v) = v := fun _ => rfl
    generalize a.eval = ρ at *
    unfold execOp; rw [← hop]; go_simp
  · have q47 : a.eval (.tmp 47) = .pointer (some ⟨C, 22, none⟩) := hin 47 (by decide)
    show (execOp a.eval o).run Yba.prog w = .ok (.value (.slice (some ⟨F, 0, none⟩) 1 1)) w
    clear hdst hc' ho
    have qc : ∀ v, a.eval (.const v) = v := fun _ => rfl
    generalize a.eval = ρ at *
    unfold execOp; rw [← hop]; go_simp
  · have q2 : a.eval (.tmp 2) = .int .i32 0 := (hout 2 (by decide)).trans h2
    show (execOp a.eval o).run Yba.prog w = .ok (.value (.int .i32 0)) w
    clear hdst hc' ho
    have qc : ∀ v, a.eval (.const v) = v := fun _ => rfl
    generalize a.eval = ρ at *
    unfold execOp; rw [← hop]; go_simp
  · have q48 : a.eval (.tmp 48) = .slice (some ⟨F, 0, none⟩) 1 1 := hin 48 (by decide)
    have q49 : a.eval (.tmp 49) = .int .i32 0 := hin 49 (by decide)
    show (execOp a.eval o).run Yba.prog w = .ok (.value (.pointer (some ⟨F, 0, none⟩))) w
    clear hdst hc' ho
    have qc : ∀ v, a.eval (.const v) = v := fun _ => rfl
    generalize a.eval = ρ at *
    unfold execOp; rw [← hop]; go_simp
  · have q50 : a.eval (.tmp 50) = .pointer (some ⟨F, 0, none⟩) := hin 50 (by decide)
    have st := cF rfl
    show (execOp a.eval o).run Yba.prog w = .ok (.value (.slice fp fn fc)) w
    clear hdst hc' ho
    have qc : ∀ v, a.eval (.const v) = v := fun _ => rfl
    generalize a.eval = ρ at *
    unfold execOp; rw [← hop]; go_simp
  · have q6 : a.eval (.tmp 6) = .int .i32 id := (hout 6 (by decide)).trans h6
    show (execOp a.eval o).run Yba.prog w = .ok (.value (.int .i32 id)) w
    clear hdst hc' ho
    have qc : ∀ v, a.eval (.const v) = v := fun _ => rfl
    generalize a.eval = ρ at *
    unfold execOp; rw [← hop]; go_simp
  · have q43 : a.eval (.tmp 43) = .slice (some ⟨F, 0, none⟩) 1 1 := hin 43 (by decide)
    have q44 : a.eval (.tmp 44) = .int .i32 0 := hin 44 (by decide)
    show (execOp a.eval o).run Yba.prog w = .ok (.value (.pointer (some ⟨F, 0, none⟩))) w
    clear hdst hc' ho
    have qc : ∀ v, a.eval (.const v) = v := fun _ => rfl
    generalize a.eval = ρ at *
    unfold execOp; rw [← hop]; go_simp

theorem run_append_op {P : Program} {a : Act} {o : Oper} {s x : Operand} {t : TypeId} {va vx v' : Value} {w w' : World} (hop : o.op = .call { callee := .builtin .append, args := #[s, x], argTypes := #[t, t] }) (hs : a.eval s = va) (hx : a.eval x = vx)
    (hr : (Builtin.append_ #[t, t] o.type #[va, vx]).run P w = .ok v' w') : (execOp a.eval o).run P w = .ok (.value v') w' := by
  unfold execOp
  simp only [hop, resolve, invoke, builtin, Sem.run_bind, Sem.run_pure, Result.andThen_ok, List.map_toArray, List.map_cons, List.map_nil, hs, hx, hr]

theorem info64 : (Yba.prog.info? 64).map (fun i => (i.zero, i.size, i.bytes)) = some (some (.agg #[.int .i32 0, .int .u32 0, .int .i32 0]), 3, 12) := by kernel_rfl

/-- the cells of a new level -/
def newLv (iv : Int) : List Value := [.int .i32 0, .int .u32 iv, .int .i32 (-1)]

/-- an append to a full row makes a new one -/
theorem run_append_new {P : Program} (w : World) (base : Nat) (t ty e : TypeId) (i : TypeInfo) (z : Value) (size bytes : Nat) (ht : P.underlying t = some (.slice e)) (hi : P.info? e = some i) (hz : i.zero = some z)
    (hsize : i.size = size) (hby : i.bytes = bytes) (hzs : z.cells.size = size) (hsz : 0 < size)
    (p : Option Addr) (n : Nat) (xs : List Value) (hown : w.ownsRow base e size (.slice p n n) n xs)
    (a : Addr) (m c : Nat) (hm : 0 < m) (news : List Value) (hl : news.length = m * size) (hnews : ∀ j u, news[j]? = some u → w.cell? (a.add j) = some u) (h1 : ∀ u ∈ news, u.oneCell' = true)
    (h63 : n + m ≤ maxLen) (hbytes : (n + m) * bytes ≤ 140737488355328) :
    ∃ v' w', (Builtin.append_ #[t, t] ty #[.slice p n n, .slice (some a) m c]).run P w = .ok v' w' ∧ w'.ownsRow w.heap.size e size v' (n + m) (xs ++ news) ∧ w.grownBy w' none := by
  rcases hown.2 with ⟨h, rfl⟩ | ⟨g, cap, cur, h, hb, hg, hn, hc, hs, htk⟩
  · have hx : xs = [] := List.eq_nil_of_length_eq_zero (by simpa using hown.1)
    subst hx
    obtain ⟨v', w', r1, r2, r3, _⟩ := run_append_own (P := P) w w.heap.size t ty e i z size bytes ht hi hz hsize hby hzs hsz (.slice none 0 0) 0 [] (World.ownsRow_nil _ _ _ _) a m c news hl hnews h1 h63 hbytes (Nat.le_refl _)
    rw [h]
    exact ⟨v', w', r1, r2, r3⟩
  · simp only [Value.slice.injEq, true_and] at h
    obtain ⟨rfl, rfl⟩ := h
    subst hsize
    subst hby
    have hlen : (xs ++ news).length = (n + m) * i.size := by rw [List.length_append, hown.1, hl, Nat.add_mul]
    have hr := run_append_grow (P := P) w t ty e i z ht hi hz ⟨g, 0, none⟩ n n xs hown.1 (hown.cells (g := g) rfl) a m c news hl hnews (by omega) (by simp only [maxLen] at h63; omega) (growslice_fits (by omega) hbytes)
    have hge := grownCap_ge w (n + m) n e
    have hcm : grownCap w (n + m) n e ≤ maxLen := grownCap_le_maxLen w (n + m) n e h63
    refine ⟨_, _, hr, ⟨hlen, .inr ⟨w.heap.size, _, _, rfl, Nat.le_refl _, heap_alloc_new w.drew _, hge, hcm, ?_, ?_⟩⟩, ⟨rfl, rfl, rfl, by simp, fun k hk _ => Below.heap_alloc w.drew _ k hk⟩⟩
    · simp only [Array.size_append, List.size_toArray, size_zeroCells, hzs, hown.1, hl, ← Nat.add_mul]
      congr 1
      omega
    · simp only [Array.toList_append, List.append_assoc]
      rw [← List.append_assoc, ← hlen]
      exact List.take_left

theorem r4 {ops : Array Oper} {rid : Nat} {a0 : Act} {w : World} {Q : Exit → Act → World → Prop} (C I : Nat) (lp : Option Addr) (ln lc : Nat) (iv : Int) (base : Nat) (xs : List Value)
    (hm : Yba.prog.follows .mixedOrders = true) (hsz : a0.tmps.size = 91) (hops : ops.toList.map (fun o => (o.dst, o.op)) = tabJ4) (hB : threadB ops [11, 12, 15] isJ4 DJ4 91 = true) (hR : readsB ops inJ4 outJ4 = true) (hx : waits ops 12 4 = true)
    (h0 : a0.eval (.tmp 0) = .pointer (some ⟨C, 0, none⟩)) (h2 : a0.eval (.tmp 2) = .int .i32 0) (h7 : a0.eval (.tmp 7) = .pointer (some ⟨I, 0, none⟩))
    (c21 : w.cell? ⟨C, 21, none⟩ = some (.slice lp ln lc)) (f21 : w.frozen? ⟨C, 21, none⟩ = false) (cI : w.cell? ⟨I, 2, none⟩ = some (.int .u32 iv))
    (hown : w.ownsRow base 64 3 (.slice lp ln lc) ln xs) (hln : ln ≤ 1) (hfull : lc = ln)
    (hend : ∀ x v' w2, w2.ownsRow w.heap.size 64 3 v' (ln + 1) (xs ++ newLv iv) → (w.drew.alloc (.cells (newLv iv).toArray 64)).grownBy w2 none → Q .normal (lay DJ4 x a0) (w2.setCell ⟨C, 21, none⟩ v')) :
    (Code.region rid ops true).wp Yba.prog Q a0 w := by
  have lC : C < w.heap.size := World.block_lt_of_cell? _ _ c21
  have lI : I < w.heap.size := World.block_lt_of_cell? _ _ cI
  have A : ∀ p : Addr, p.block < w.heap.size → (w.drew.alloc (.cells (newLv iv).toArray 64)).cell? p = w.cell? p := fun p hp => World.cell?_alloc_lt _ _ _ hp
  have G : ∀ (w2 : World) (p : Addr), (w.drew.alloc (.cells (newLv iv).toArray 64)).grownBy w2 none → p.block < w.heap.size → some p.block ≠ none → w2.cell? p = w.cell? p := fun w2 p hg hp hn =>
    (World.cell?_of_block (hg.block p.block (by simp; omega) hn)).trans (A p hp)
  refine wp_region_thread hm [11, 12, 15] isJ4 DJ4 (by rw [hsz]; exact hB) inJ4 outJ4 hR (VJ4 C I lp ln lc iv)
    (fun k e w' => (k = 0 ∧ w' = w.drew) ∨ (k = 1 ∧ w' = w.drew.alloc (.cells (newLv iv).toArray 64) ∧ e 36 = .slice (some ⟨w.heap.size, 0, none⟩) 1 1) ∨
      (k = 2 ∧ ∃ v', e 37 = v' ∧ w'.ownsRow w.heap.size 64 3 v' (ln + 1) (xs ++ newLv iv) ∧ (w.drew.alloc (.cells (newLv iv).toArray 64)).grownBy w' none) ∨
      (k = 3 ∧ ∃ v' w2, w' = w2.setCell ⟨C, 21, none⟩ v' ∧ w2.ownsRow w.heap.size 64 3 v' (ln + 1) (xs ++ newLv iv) ∧ (w.drew.alloc (.cells (newLv iv).toArray 64)).grownBy w2 none))
    (fun _ => undef) (Or.inl ⟨rfl, rfl⟩) ?_ ?_ ?_
  · intro i o d a e k w' ho hc' hd hin hout hk hW
    refine J4_pure C I lp ln lc iv hops h0 h2 h7 i o d a e w' ho hc' hd hin hout (fun hi => ?_) ?_
    · subst hi
      have : k ≤ 1 := hk 1 (by simp) hx
      rcases hW with ⟨rfl, rfl⟩ | ⟨rfl, rfl, _⟩ | ⟨rfl, _⟩ | ⟨rfl, _⟩
      · exact c21
      · rw [A _ lC]; exact c21
      · omega
      · omega
    · rcases hW with ⟨rfl, rfl⟩ | ⟨rfl, rfl, _⟩ | ⟨rfl, v', _, _, hg⟩ | ⟨rfl, v', w2, rfl, _, hg⟩
      · exact cI
      · rw [A _ lI]; exact cI
      · rw [G w' _ hg lI (by simp)]; exact cI
      · rw [World.cell?_setCell_other _ _ _ _ (by intro hx; injection hx; omega), G w2 _ hg lI (by simp)]; exact cI
  · intro k o a e w' hk ho hin hout hW
    have hk3 : k = 0 ∨ k = 1 ∨ k = 2 := by simp at hk; omega
    rcases hk3 with rfl | rfl | rfl
    · have hat := op_at hops 11 o ho
      simp only [tabJ4, List.getElem?_cons_zero, List.getElem?_cons_succ, Option.some.injEq, Prod.mk.injEq] at hat
      obtain ⟨hdst, hop⟩ := hat
      obtain ⟨_, rfl⟩ | ⟨h, _⟩ | ⟨h, _⟩ | ⟨h, _⟩ := hW
      · have q35 : a.eval (.tmp 35) = .agg #[.int .i32 0, .int .u32 iv, .int .i32 (-1)] := hin 35 (by decide)
        unfold Oper.wp
        have hrun : (execOp a.eval o).run Yba.prog w.drew = .ok (.value (.slice (some ⟨w.heap.size, 0, none⟩) 1 1)) (w.drew.alloc (.cells (newLv iv).toArray 64)) := by
          clear hk ho hend hops hR hB hdst hin hout
          generalize a.eval = ρ at *
          unfold execOp; rw [← hop]; go_simp; rfl
        rw [hrun]
        exact ⟨_, fun s => if o.dst = some s then .slice (some ⟨w.heap.size, 0, none⟩) 1 1 else e s, rfl, fun s => rfl, Or.inr (Or.inl ⟨rfl, rfl, by simp [← hdst]⟩)⟩
      all_goals cases h
    · have hat := op_at hops 12 o ho
      simp only [tabJ4, List.getElem?_cons_zero, List.getElem?_cons_succ, Option.some.injEq, Prod.mk.injEq] at hat
      obtain ⟨hdst, hop⟩ := hat
      obtain ⟨h, _⟩ | ⟨_, rfl, h36⟩ | ⟨h, _⟩ | ⟨h, _⟩ := hW
      · cases h
      · have q29 : a.eval (.tmp 29) = .slice lp ln lc := hin 29 (by decide)
        have q36 : a.eval (.tmp 36) = .slice (some ⟨w.heap.size, 0, none⟩) 1 1 := (hin 36 (by decide)).trans h36
        obtain ⟨i0, hi, hz0, hz1, hz2⟩ := info_parts info64
        have hown1 : (w.drew.alloc (.cells (newLv iv).toArray 64)).ownsRow base 64 3 (.slice lp ln lc) ln xs := by
          refine ⟨hown.1, hown.2.imp id ?_⟩
          rintro ⟨g, cap, cur, e1, e2, e3, e4⟩
          exact ⟨g, cap, cur, e1, e2, (Below.heap_alloc w.drew _ g (Array.getElem?_eq_some_iff.1 e3).1).trans e3, e4⟩
        subst hfull
        obtain ⟨v', w2, hr, ho2, hg2⟩ := run_append_new (P := Yba.prog) (w := w.drew.alloc (.cells (newLv iv).toArray 64)) base 61 o.type 64 i0 _ 3 12 Yba.underlying61 hi hz0 hz1 hz2 rfl (by decide) lp lc xs hown1 ⟨w.heap.size, 0, none⟩ 1 1 (by decide) (newLv iv) rfl
          (fun j u hj => by
            rw [Go.WideShapes.add_plain, World.cell?_alloc_at _ _ _ _ (by simp)]
            simpa using hj)
          (fun u hu => by simp [newLv] at hu; rcases hu with rfl | rfl | rfl <;> rfl) (by unfold maxLen; omega) (by omega)
        unfold Oper.wp
        rw [run_append_op hop.symm q29 q36 hr]
        exact ⟨_, fun s => if o.dst = some s then v' else e s, rfl, fun s => rfl, Or.inr (Or.inr (Or.inl ⟨rfl, v', by simp [← hdst], ⟨ho2.1, ho2.2.imp (fun h => h) (fun ⟨g, cap, cur, e1, e2, e3⟩ => ⟨g, cap, cur, e1, by simp at e2; omega, e3⟩)⟩, hg2⟩))⟩
      · cases h
      · cases h
    · have hat := op_at hops 15 o ho
      simp only [tabJ4, List.getElem?_cons_zero, List.getElem?_cons_succ, Option.some.injEq, Prod.mk.injEq] at hat
      obtain ⟨hdst, hop⟩ := hat
      obtain ⟨h, _⟩ | ⟨h, _⟩ | ⟨_, v', h37, ho2, hg2⟩ | ⟨h, _⟩ := hW
      · cases h
      · cases h
      · have q39 : a.eval (.tmp 39) = .pointer (some ⟨C, 21, none⟩) := hin 39 (by decide)
        have q37 : a.eval (.tmp 37) = v' := (hin 37 (by decide)).trans h37
        have c1 := (G w' ⟨C, 21, none⟩ hg2 lC (by simp)).trans c21
        have f1 : w'.frozen? ⟨C, 21, none⟩ = false := by
          rw [World.frozen?_of_block (hg2.block C (by simp; omega) (by simp)), World.frozen?_alloc_old _ _ _ (by show C ≠ w.heap.size; omega)]
          exact f21
        have hv : ∃ p n c, v' = .slice p n c := by
          rcases ho2.2 with ⟨h, _⟩ | ⟨g, cap, cur, h, _⟩
          · exact ⟨_, _, _, h⟩
          · exact ⟨_, _, _, h⟩
        obtain ⟨vp, vn, vc, rfl⟩ := hv
        unfold Oper.wp
        have hrun : (execOp a.eval o).run Yba.prog w' = .ok .skip (w'.setCell ⟨C, 21, none⟩ (.slice vp vn vc)) := by
          clear hk ho hend hops hR hB hdst hin hout h37 ho2 hg2 A G hown
          generalize a.eval = ρ at *
          unfold execOp; rw [← hop]; go_simp
        rw [hrun]
        exact ⟨_, fun s => if o.dst = some s then undef else e s, rfl, fun s => rfl, Or.inr (Or.inr (Or.inr ⟨rfl, _, w', rfl, ho2, hg2⟩))⟩
      · cases h
  · rintro e w' (⟨h, _⟩ | ⟨h, _⟩ | ⟨h, _⟩ | ⟨_, v', w2, rfl, ho, hg⟩)
    · cases h
    · cases h
    · cases h
    · exact hend _ v' w2 ho hg

end Go.Proofs.Ybulkhwa

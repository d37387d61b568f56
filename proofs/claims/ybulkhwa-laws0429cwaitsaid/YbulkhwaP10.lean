import Derived.Test.YbulkhwaJ6
namespace Go.Proofs.Ybulkhwa
open Go.RowKit Go.Pool

def tabP10 : List (Option Nat × Op) := [(some 83, .move (.tmp 0)),
  (some 84, .move (.tmp 0)),
  (some 85, .nilCheck (.tmp 84)),
  (some 86, .fieldAddr 89 (.tmp 85) 29),
  (some 87, .load 75 (.tmp 86)),
  (some 88, .move (.tmp 0)),
  (some 89, .nilCheck (.tmp 88)),
  (some 90, .fieldAddr 89 (.tmp 89) 0),
  (some 91, .load 23 (.tmp 90)),
  (some 92, .move (.tmp 2)),
  (some 93, .indexAddr 23 (.tmp 91) (.tmp 92)),
  (some 94, .fieldAddr 30 (.tmp 93) 1),
  (some 95, .load 3 (.tmp 94)),
  (some 96, .move (.tmp 0)),
  (some 97, .nilCheck (.tmp 96)),
  (some 98, .fieldAddr 89 (.tmp 97) 0),
  (some 99, .load 23 (.tmp 98)),
  (some 100, .move (.tmp 2)),
  (some 101, .indexAddr 23 (.tmp 99) (.tmp 100)),
  (some 102, .load 30 (.tmp 101)),
  (some 103, .move (.tmp 6)),
  (some 104, .build 71 #[(0, .tmp 95), (1, .tmp 102), (2, .tmp 103)]),
  (some 105, .call { callee := .value (.tmp 87), args := #[.tmp 104], argTypes := #[71] }),
  (some 106, .nilCheck (.tmp 83)),
  (some 107, .fieldAddr 89 (.tmp 106) 31),
  (none, .store 73 (.tmp 107) (.tmp 105))]
def DP10 : List Nat := [83, 84, 85, 86, 87, 88, 89, 90, 91, 92, 93, 94, 95, 96, 97, 98, 99, 100, 101, 102, 103, 104, 105, 106, 107]
def isP10 : Nat → Bool := fun s => s == 105
def inP10 : List (Nat × Nat) := [(2, 84), (3, 85), (4, 86), (6, 88), (7, 89), (8, 90), (10, 91), (10, 92), (11, 93), (12, 94), (14, 96), (15, 97), (16, 98), (18, 99), (18, 100), (19, 101), (21, 95), (21, 102), (21, 103), (22, 104), (22, 87), (23, 83), (24, 106), (25, 107), (25, 105)]
def outP10 : List (Nat × Nat) := [(0, 0), (1, 0), (5, 0), (9, 2), (13, 0), (17, 2), (20, 6)]
def VP10 (C O N t : Nat) (tx : Int) (it : ByteArray) (hp : Option Addr) (hn hc : Nat) (caps : Array Value) : Nat → Value := fun s => if s = 83 then .pointer (some ⟨C, 0, none⟩) else if s = 84 then .pointer (some ⟨C, 0, none⟩) else if s = 85 then .pointer (some ⟨C, 0, none⟩) else if s = 86 then .pointer (some ⟨C, 29, none⟩) else if s = 87 then .func (.func 10) #[] caps else if s = 88 then .pointer (some ⟨C, 0, none⟩) else if s = 89 then .pointer (some ⟨C, 0, none⟩) else if s = 90 then .pointer (some ⟨C, 0, none⟩) else if s = 91 then .slice (some ⟨O, 0, none⟩) N N else if s = 92 then .int .i32 t else if s = 93 then .pointer (some ⟨O, t * 3, none⟩) else if s = 94 then .pointer (some ⟨O, t * 3 + 1, none⟩) else if s = 95 then .int .i64 tx else if s = 96 then .pointer (some ⟨C, 0, none⟩) else if s = 97 then .pointer (some ⟨C, 0, none⟩) else if s = 98 then .pointer (some ⟨C, 0, none⟩) else if s = 99 then .slice (some ⟨O, 0, none⟩) N N else if s = 100 then .int .i32 t else if s = 101 then .pointer (some ⟨O, t * 3, none⟩) else if s = 102 then .agg #[.int .u8 114, .int .i64 tx, .string it] else if s = 103 then .slice hp hn hc else if s = 104 then .agg #[.int .i64 tx, .int .u8 114, .int .i64 tx, .string it, .slice hp hn hc] else if s = 106 then .pointer (some ⟨C, 0, none⟩) else if s = 107 then .pointer (some ⟨C, 31, none⟩) else undef

set_option maxHeartbeats 2000000 in
theorem P10_pure (C O N t : Nat) (tx : Int) (it : ByteArray) (hp : Option Addr) (hn hc : Nat) (caps : Array Value) {ops : Array Oper} {a0 : Act} (hops : ops.toList.map (fun o => (o.dst, o.op)) = tabP10)
    (h0 : a0.eval (.tmp 0) = .pointer (some ⟨C, 0, none⟩)) (h2 : a0.eval (.tmp 2) = .int .i32 t) (h6 : a0.eval (.tmp 6) = .slice hp hn hc)
    (i : Nat) (o : Oper) (d : Nat) (a : Act) (e : Nat → Value) (w : World) (ho : ops[i]? = some o) (hc' : [22, 25].contains i = false) (hd : o.dst = some d)
    (hin : ∀ s, (i, s) ∈ inP10 → a.eval (.tmp s) = mix isP10 (VP10 C O N t tx it hp hn hc caps) e s) (hout : ∀ s, (i, s) ∈ outP10 → a.eval (.tmp s) = a0.eval (.tmp s)) (ht : t < N) (c29 : w.cell? ⟨C, 29, none⟩ = some (.func (.func 10) #[] caps)) (c0 : w.cell? ⟨C, 0, none⟩ = some (.slice (some ⟨O, 0, none⟩) N N)) (o0 : w.cell? ⟨O, t * 3, none⟩ = some (.int .u8 114)) (o1 : w.cell? ⟨O, t * 3 + 1, none⟩ = some (.int .i64 tx)) (o2 : w.cell? ⟨O, t * 3 + 2, none⟩ = some (.string it)) :
    (execOp a.eval o).run Yba.prog w = .ok (.value (VP10 C O N t tx it hp hn hc caps d)) w := by
  have hlen : ops.size = 26 := by
    have := congrArg List.length hops
    simpa [tabP10] using this
  have hlt : i < 26 := by rw [← hlen]; exact (Array.getElem?_eq_some_iff.1 ho).1
  have hat := op_at hops i o ho
  have ht' : (t : Int) < (N : Int) := by omega
  clear hops hlen
  have hi : i = 0 ∨ i = 1 ∨ i = 2 ∨ i = 3 ∨ i = 4 ∨ i = 5 ∨ i = 6 ∨ i = 7 ∨ i = 8 ∨ i = 9 ∨ i = 10 ∨ i = 11 ∨ i = 12 ∨ i = 13 ∨ i = 14 ∨ i = 15 ∨ i = 16 ∨ i = 17 ∨ i = 18 ∨ i = 19 ∨ i = 20 ∨ i = 21 ∨ i = 22 ∨ i = 23 ∨ i = 24 ∨ i = 25 := by omega
  rcases hi with rfl | rfl | rfl | rfl | rfl | rfl | rfl | rfl | rfl | rfl | rfl | rfl | rfl | rfl | rfl | rfl | rfl | rfl | rfl | rfl | rfl | rfl | rfl | rfl | rfl | rfl
  all_goals
    simp only [tabP10, List.getElem?_cons_zero, List.getElem?_cons_succ, Option.some.injEq, Prod.mk.injEq] at hat
    obtain ⟨hdst, hop⟩ := hat
    rw [← hdst] at hd
    try cases hd
    try exact absurd hc' (by decide)
  · have q0 : a.eval (.tmp 0) = .pointer (some ⟨C, 0, none⟩) := (hout 0 (by decide)).trans h0
    show (execOp a.eval o).run Yba.prog w = .ok (.value (.pointer (some ⟨C, 0, none⟩))) w
    clear hdst hc' ho
    have qc : ∀ v, a.eval (.const v) = v := fun _ => rfl
    generalize a.eval = ρ at *
    unfold execOp; rw [← hop]; go_simp
  · have q0 : a.eval (.tmp 0) = .pointer (some ⟨C, 0, none⟩) := (hout 0 (by decide)).trans h0
    show (execOp a.eval o).run Yba.prog w = .ok (.value (.pointer (some ⟨C, 0, none⟩))) w
    clear hdst hc' ho
    have qc : ∀ v, a.eval (.const v) = v := fun _ => rfl
    generalize a.eval = ρ at *
    unfold execOp; rw [← hop]; go_simp
  · have q84 : a.eval (.tmp 84) = .pointer (some ⟨C, 0, none⟩) := hin 84 (by decide)
    show (execOp a.eval o).run Yba.prog w = .ok (.value (.pointer (some ⟨C, 0, none⟩))) w
    clear hdst hc' ho
    have qc : ∀ v, a.eval (.const v) = v := fun _ => rfl
    generalize a.eval = ρ at *
    unfold execOp; rw [← hop]; go_simp
  · have q85 : a.eval (.tmp 85) = .pointer (some ⟨C, 0, none⟩) := hin 85 (by decide)
    show (execOp a.eval o).run Yba.prog w = .ok (.value (.pointer (some ⟨C, 29, none⟩))) w
    clear hdst hc' ho
    have qc : ∀ v, a.eval (.const v) = v := fun _ => rfl
    generalize a.eval = ρ at *
    unfold execOp; rw [← hop]; go_simp
  · have q86 : a.eval (.tmp 86) = .pointer (some ⟨C, 29, none⟩) := hin 86 (by decide)
    show (execOp a.eval o).run Yba.prog w = .ok (.value (.func (.func 10) #[] caps)) w
    clear hdst hc' ho
    have qc : ∀ v, a.eval (.const v) = v := fun _ => rfl
    generalize a.eval = ρ at *
    unfold execOp; rw [← hop]; go_simp
  · have q0 : a.eval (.tmp 0) = .pointer (some ⟨C, 0, none⟩) := (hout 0 (by decide)).trans h0
    show (execOp a.eval o).run Yba.prog w = .ok (.value (.pointer (some ⟨C, 0, none⟩))) w
    clear hdst hc' ho
    have qc : ∀ v, a.eval (.const v) = v := fun _ => rfl
    generalize a.eval = ρ at *
    unfold execOp; rw [← hop]; go_simp
  · have q88 : a.eval (.tmp 88) = .pointer (some ⟨C, 0, none⟩) := hin 88 (by decide)
    show (execOp a.eval o).run Yba.prog w = .ok (.value (.pointer (some ⟨C, 0, none⟩))) w
    clear hdst hc' ho
    have qc : ∀ v, a.eval (.const v) = v := fun _ => rfl
    generalize a.eval = ρ at *
    unfold execOp; rw [← hop]; go_simp
  · have q89 : a.eval (.tmp 89) = .pointer (some ⟨C, 0, none⟩) := hin 89 (by decide)
    show (execOp a.eval o).run Yba.prog w = .ok (.value (.pointer (some ⟨C, 0, none⟩))) w
    clear hdst hc' ho
    have qc : ∀ v, a.eval (.const v) = v := fun _ => rfl
    generalize a.eval = ρ at *
    unfold execOp; rw [← hop]; go_simp
  · have q90 : a.eval (.tmp 90) = .pointer (some ⟨C, 0, none⟩) := hin 90 (by decide)
    show (execOp a.eval o).run Yba.prog w = .ok (.value (.slice (some ⟨O, 0, none⟩) N N)) w
    clear hdst hc' ho
    have qc : ∀ v, a.eval (.const v) = v := fun _ => rfl
    generalize a.eval = ρ at *
    unfold execOp; rw [← hop]; go_simp
  · have q2 : a.eval (.tmp 2) = .int .i32 t := (hout 2 (by decide)).trans h2
    show (execOp a.eval o).run Yba.prog w = .ok (.value (.int .i32 t)) w
    clear hdst hc' ho
    have qc : ∀ v, a.eval (.const v) = v := fun _ => rfl
    generalize a.eval = ρ at *
    unfold execOp; rw [← hop]; go_simp
  · have q91 : a.eval (.tmp 91) = .slice (some ⟨O, 0, none⟩) N N := hin 91 (by decide)
    have q92 : a.eval (.tmp 92) = .int .i32 t := hin 92 (by decide)
    show (execOp a.eval o).run Yba.prog w = .ok (.value (.pointer (some ⟨O, t * 3, none⟩))) w
    clear hdst hc' ho
    have qc : ∀ v, a.eval (.const v) = v := fun _ => rfl
    generalize a.eval = ρ at *
    unfold execOp; rw [← hop]; go_simp
  · have q93 : a.eval (.tmp 93) = .pointer (some ⟨O, t * 3, none⟩) := hin 93 (by decide)
    show (execOp a.eval o).run Yba.prog w = .ok (.value (.pointer (some ⟨O, t * 3 + 1, none⟩))) w
    clear hdst hc' ho
    have qc : ∀ v, a.eval (.const v) = v := fun _ => rfl
    generalize a.eval = ρ at *
    unfold execOp; rw [← hop]; go_simp
  · have q94 : a.eval (.tmp 94) = .pointer (some ⟨O, t * 3 + 1, none⟩) := hin 94 (by decide)
    show (execOp a.eval o).run Yba.prog w = .ok (.value (.int .i64 tx)) w
    clear hdst hc' ho
    have qc : ∀ v, a.eval (.const v) = v := fun _ => rfl
    generalize a.eval = ρ at *
    unfold execOp; rw [← hop]; go_simp
  · have q0 : a.eval (.tmp 0) = .pointer (some ⟨C, 0, none⟩) := (hout 0 (by decide)).trans h0
    show (execOp a.eval o).run Yba.prog w = .ok (.value (.pointer (some ⟨C, 0, none⟩))) w
    clear hdst hc' ho
    have qc : ∀ v, a.eval (.const v) = v := fun _ => rfl
    generalize a.eval = ρ at *
    unfold execOp; rw [← hop]; go_simp
  · have q96 : a.eval (.tmp 96) = .pointer (some ⟨C, 0, none⟩) := hin 96 (by decide)
    show (execOp a.eval o).run Yba.prog w = .ok (.value (.pointer (some ⟨C, 0, none⟩))) w
    clear hdst hc' ho
    have qc : ∀ v, a.eval (.const v) = v := fun _ => rfl
    generalize a.eval = ρ at *
    unfold execOp; rw [← hop]; go_simp
  · have q97 : a.eval (.tmp 97) = .pointer (some ⟨C, 0, none⟩) := hin 97 (by decide)
    show (execOp a.eval o).run Yba.prog w = .ok (.value (.pointer (some ⟨C, 0, none⟩))) w
    clear hdst hc' ho
    have qc : ∀ v, a.eval (.const v) = v := fun _ => rfl
    generalize a.eval = ρ at *
    unfold execOp; rw [← hop]; go_simp
  · have q98 : a.eval (.tmp 98) = .pointer (some ⟨C, 0, none⟩) := hin 98 (by decide)
    show (execOp a.eval o).run Yba.prog w = .ok (.value (.slice (some ⟨O, 0, none⟩) N N)) w
    clear hdst hc' ho
    have qc : ∀ v, a.eval (.const v) = v := fun _ => rfl
    generalize a.eval = ρ at *
    unfold execOp; rw [← hop]; go_simp
  · have q2 : a.eval (.tmp 2) = .int .i32 t := (hout 2 (by decide)).trans h2
    show (execOp a.eval o).run Yba.prog w = .ok (.value (.int .i32 t)) w
    clear hdst hc' ho
    have qc : ∀ v, a.eval (.const v) = v := fun _ => rfl
    generalize a.eval = ρ at *
    unfold execOp; rw [← hop]; go_simp
  · have q99 : a.eval (.tmp 99) = .slice (some ⟨O, 0, none⟩) N N := hin 99 (by decide)
    have q100 : a.eval (.tmp 100) = .int .i32 t := hin 100 (by decide)
    show (execOp a.eval o).run Yba.prog w = .ok (.value (.pointer (some ⟨O, t * 3, none⟩))) w
    clear hdst hc' ho
    have qc : ∀ v, a.eval (.const v) = v := fun _ => rfl
    generalize a.eval = ρ at *
    unfold execOp; rw [← hop]; go_simp
  · have q101 : a.eval (.tmp 101) = .pointer (some ⟨O, t * 3, none⟩) := hin 101 (by decide)
    show (execOp a.eval o).run Yba.prog w = .ok (.value (.agg #[.int .u8 114, .int .i64 tx, .string it])) w
    clear hdst hc' ho
    have qc : ∀ v, a.eval (.const v) = v := fun _ => rfl
    generalize a.eval = ρ at *
    unfold execOp; rw [← hop]; go_simp
  · have q6 : a.eval (.tmp 6) = .slice hp hn hc := (hout 6 (by decide)).trans h6
    show (execOp a.eval o).run Yba.prog w = .ok (.value (.slice hp hn hc)) w
    clear hdst hc' ho
    have qc : ∀ v, a.eval (.const v) = v := fun _ => rfl
    generalize a.eval = ρ at *
    unfold execOp; rw [← hop]; go_simp
  · have q95 : a.eval (.tmp 95) = .int .i64 tx := hin 95 (by decide)
    have q102 : a.eval (.tmp 102) = .agg #[.int .u8 114, .int .i64 tx, .string it] := hin 102 (by decide)
    have q103 : a.eval (.tmp 103) = .slice hp hn hc := hin 103 (by decide)
    show (execOp a.eval o).run Yba.prog w = .ok (.value (.agg #[.int .i64 tx, .int .u8 114, .int .i64 tx, .string it, .slice hp hn hc])) w
    clear hdst hc' ho
    have qc : ∀ v, a.eval (.const v) = v := fun _ => rfl
    generalize a.eval = ρ at *
    unfold execOp; rw [← hop]; go_simp
  · have q83 : a.eval (.tmp 83) = .pointer (some ⟨C, 0, none⟩) := hin 83 (by decide)
    show (execOp a.eval o).run Yba.prog w = .ok (.value (.pointer (some ⟨C, 0, none⟩))) w
    clear hdst hc' ho
    have qc : ∀ v, a.eval (.const v) = v := fun _ => rfl
    generalize a.eval = ρ at *
    unfold execOp; rw [← hop]; go_simp
  · have q106 : a.eval (.tmp 106) = .pointer (some ⟨C, 0, none⟩) := hin 106 (by decide)
    show (execOp a.eval o).run Yba.prog w = .ok (.value (.pointer (some ⟨C, 31, none⟩))) w
    clear hdst hc' ho
    have qc : ∀ v, a.eval (.const v) = v := fun _ => rfl
    generalize a.eval = ρ at *
    unfold execOp; rw [← hop]; go_simp

def tabP6 : List (Option Nat × Op) := [(some 59, .move (.tmp 6)),
  (some 60, .move (.tmp 0)),
  (some 61, .nilCheck (.tmp 60)),
  (some 62, .fieldAddr 89 (.tmp 61) 1),
  (some 63, .load 34 (.tmp 62)),
  (some 64, .move (.tmp 0)),
  (some 65, .nilCheck (.tmp 64)),
  (some 66, .fieldAddr 89 (.tmp 65) 15),
  (some 67, .load 24 (.tmp 66)),
  (some 68, .fieldAddr 58 (.tmp 8) 0),
  (some 69, .load 21 (.tmp 68)),
  (some 70, .indexAddr 24 (.tmp 67) (.tmp 69)),
  (some 71, .load 21 (.tmp 70)),
  (some 72, .indexAddr 34 (.tmp 63) (.tmp 71)),
  (some 73, .load 3 (.tmp 72)),
  (some 74, .buildSlice 34 1 #[(0, .tmp 73)]),
  (some 75, .call { callee := .builtin .append, args := #[.tmp 59, .tmp 74], argTypes := #[34, 34] }),
  (some 6, .assign (.tmp 75))]
def DP6 : List Nat := [59, 60, 61, 62, 63, 64, 65, 66, 67, 68, 69, 70, 71, 72, 73, 74, 75, 6]
def isP6 : Nat → Bool := fun s => s == 74 || s == 75 || s == 6
def inP6 : List (Nat × Nat) := [(2, 60), (3, 61), (4, 62), (6, 64), (7, 65), (8, 66), (10, 68), (11, 67), (11, 69), (12, 70), (13, 63), (13, 71), (14, 72), (15, 73), (16, 59), (16, 74), (17, 75)]
def outP6 : List (Nat × Nat) := [(0, 6), (1, 0), (5, 0), (9, 8)]
def VP6 (C X J B N l : Nat) (x : Int) (hp : Option Addr) (hn hc : Nat) : Nat → Value := fun s => if s = 59 then .slice hp hn hc else if s = 60 then .pointer (some ⟨C, 0, none⟩) else if s = 61 then .pointer (some ⟨C, 0, none⟩) else if s = 62 then .pointer (some ⟨C, 1, none⟩) else if s = 63 then .slice (some ⟨X, 0, none⟩) N N else if s = 64 then .pointer (some ⟨C, 0, none⟩) else if s = 65 then .pointer (some ⟨C, 0, none⟩) else if s = 66 then .pointer (some ⟨C, 15, none⟩) else if s = 67 then .slice (some ⟨J, 0, none⟩) N N else if s = 68 then .pointer (some ⟨B, 0, none⟩) else if s = 69 then .int .i32 l else if s = 70 then .pointer (some ⟨J, l, none⟩) else if s = 71 then .int .i32 l else if s = 72 then .pointer (some ⟨X, l, none⟩) else if s = 73 then .int .i64 x else undef

set_option maxHeartbeats 2000000 in
theorem P6_pure (C X J B N l : Nat) (x : Int) (hp : Option Addr) (hn hc : Nat) {ops : Array Oper} {a0 : Act} (hops : ops.toList.map (fun o => (o.dst, o.op)) = tabP6)
    (h0 : a0.eval (.tmp 0) = .pointer (some ⟨C, 0, none⟩)) (h6 : a0.eval (.tmp 6) = .slice hp hn hc) (h8 : a0.eval (.tmp 8) = .pointer (some ⟨B, 0, none⟩))
    (i : Nat) (o : Oper) (d : Nat) (a : Act) (e : Nat → Value) (w : World) (ho : ops[i]? = some o) (hc' : [15, 16, 17].contains i = false) (hd : o.dst = some d)
    (hin : ∀ s, (i, s) ∈ inP6 → a.eval (.tmp s) = mix isP6 (VP6 C X J B N l x hp hn hc) e s) (hout : ∀ s, (i, s) ∈ outP6 → a.eval (.tmp s) = a0.eval (.tmp s)) (hl : l < N) (c1 : w.cell? ⟨C, 1, none⟩ = some (.slice (some ⟨X, 0, none⟩) N N)) (c15 : w.cell? ⟨C, 15, none⟩ = some (.slice (some ⟨J, 0, none⟩) N N)) (b0 : w.cell? ⟨B, 0, none⟩ = some (.int .i32 l)) (j0 : w.cell? ⟨J, l, none⟩ = some (.int .i32 l)) (x0 : w.cell? ⟨X, l, none⟩ = some (.int .i64 x)) :
    (execOp a.eval o).run Yba.prog w = .ok (.value (VP6 C X J B N l x hp hn hc d)) w := by
  have hlen : ops.size = 18 := by
    have := congrArg List.length hops
    simpa [tabP6] using this
  have hlt : i < 18 := by rw [← hlen]; exact (Array.getElem?_eq_some_iff.1 ho).1
  have hat := op_at hops i o ho
  have hl' : (l : Int) < (N : Int) := by omega
  clear hops hlen
  have hi : i = 0 ∨ i = 1 ∨ i = 2 ∨ i = 3 ∨ i = 4 ∨ i = 5 ∨ i = 6 ∨ i = 7 ∨ i = 8 ∨ i = 9 ∨ i = 10 ∨ i = 11 ∨ i = 12 ∨ i = 13 ∨ i = 14 ∨ i = 15 ∨ i = 16 ∨ i = 17 := by omega
  rcases hi with rfl | rfl | rfl | rfl | rfl | rfl | rfl | rfl | rfl | rfl | rfl | rfl | rfl | rfl | rfl | rfl | rfl | rfl
  all_goals
    simp only [tabP6, List.getElem?_cons_zero, List.getElem?_cons_succ, Option.some.injEq, Prod.mk.injEq] at hat
    obtain ⟨hdst, hop⟩ := hat
    rw [← hdst] at hd
    try cases hd
    try exact absurd hc' (by decide)
  · have q6 : a.eval (.tmp 6) = .slice hp hn hc := (hout 6 (by decide)).trans h6
    show (execOp a.eval o).run Yba.prog w = .ok (.value (.slice hp hn hc)) w
    clear hdst hc' ho
    have qc : ∀ v, a.eval (.const v) = v := fun _ => rfl
    generalize a.eval = ρ at *
    unfold execOp; rw [← hop]; go_simp
  · have q0 : a.eval (.tmp 0) = .pointer (some ⟨C, 0, none⟩) := (hout 0 (by decide)).trans h0
    show (execOp a.eval o).run Yba.prog w = .ok (.value (.pointer (some ⟨C, 0, none⟩))) w
    clear hdst hc' ho
    have qc : ∀ v, a.eval (.const v) = v := fun _ => rfl
    generalize a.eval = ρ at *
    unfold execOp; rw [← hop]; go_simp
  · have q60 : a.eval (.tmp 60) = .pointer (some ⟨C, 0, none⟩) := hin 60 (by decide)
    show (execOp a.eval o).run Yba.prog w = .ok (.value (.pointer (some ⟨C, 0, none⟩))) w
    clear hdst hc' ho
    have qc : ∀ v, a.eval (.const v) = v := fun _ => rfl
    generalize a.eval = ρ at *
    unfold execOp; rw [← hop]; go_simp
  · have q61 : a.eval (.tmp 61) = .pointer (some ⟨C, 0, none⟩) := hin 61 (by decide)
    show (execOp a.eval o).run Yba.prog w = .ok (.value (.pointer (some ⟨C, 1, none⟩))) w
    clear hdst hc' ho
    have qc : ∀ v, a.eval (.const v) = v := fun _ => rfl
    generalize a.eval = ρ at *
    unfold execOp; rw [← hop]; go_simp
  · have q62 : a.eval (.tmp 62) = .pointer (some ⟨C, 1, none⟩) := hin 62 (by decide)
    show (execOp a.eval o).run Yba.prog w = .ok (.value (.slice (some ⟨X, 0, none⟩) N N)) w
    clear hdst hc' ho
    have qc : ∀ v, a.eval (.const v) = v := fun _ => rfl
    generalize a.eval = ρ at *
    unfold execOp; rw [← hop]; go_simp
  · have q0 : a.eval (.tmp 0) = .pointer (some ⟨C, 0, none⟩) := (hout 0 (by decide)).trans h0
    show (execOp a.eval o).run Yba.prog w = .ok (.value (.pointer (some ⟨C, 0, none⟩))) w
    clear hdst hc' ho
    have qc : ∀ v, a.eval (.const v) = v := fun _ => rfl
    generalize a.eval = ρ at *
    unfold execOp; rw [← hop]; go_simp
  · have q64 : a.eval (.tmp 64) = .pointer (some ⟨C, 0, none⟩) := hin 64 (by decide)
    show (execOp a.eval o).run Yba.prog w = .ok (.value (.pointer (some ⟨C, 0, none⟩))) w
    clear hdst hc' ho
    have qc : ∀ v, a.eval (.const v) = v := fun _ => rfl
    generalize a.eval = ρ at *
    unfold execOp; rw [← hop]; go_simp
  · have q65 : a.eval (.tmp 65) = .pointer (some ⟨C, 0, none⟩) := hin 65 (by decide)
    show (execOp a.eval o).run Yba.prog w = .ok (.value (.pointer (some ⟨C, 15, none⟩))) w
    clear hdst hc' ho
    have qc : ∀ v, a.eval (.const v) = v := fun _ => rfl
    generalize a.eval = ρ at *
    unfold execOp; rw [← hop]; go_simp
  · have q66 : a.eval (.tmp 66) = .pointer (some ⟨C, 15, none⟩) := hin 66 (by decide)
    show (execOp a.eval o).run Yba.prog w = .ok (.value (.slice (some ⟨J, 0, none⟩) N N)) w
    clear hdst hc' ho
    have qc : ∀ v, a.eval (.const v) = v := fun _ => rfl
    generalize a.eval = ρ at *
    unfold execOp; rw [← hop]; go_simp
  · have q8 : a.eval (.tmp 8) = .pointer (some ⟨B, 0, none⟩) := (hout 8 (by decide)).trans h8
    show (execOp a.eval o).run Yba.prog w = .ok (.value (.pointer (some ⟨B, 0, none⟩))) w
    clear hdst hc' ho
    have qc : ∀ v, a.eval (.const v) = v := fun _ => rfl
    generalize a.eval = ρ at *
    unfold execOp; rw [← hop]; go_simp
  · have q68 : a.eval (.tmp 68) = .pointer (some ⟨B, 0, none⟩) := hin 68 (by decide)
    show (execOp a.eval o).run Yba.prog w = .ok (.value (.int .i32 l)) w
    clear hdst hc' ho
    have qc : ∀ v, a.eval (.const v) = v := fun _ => rfl
    generalize a.eval = ρ at *
    unfold execOp; rw [← hop]; go_simp
  · have q67 : a.eval (.tmp 67) = .slice (some ⟨J, 0, none⟩) N N := hin 67 (by decide)
    have q69 : a.eval (.tmp 69) = .int .i32 l := hin 69 (by decide)
    show (execOp a.eval o).run Yba.prog w = .ok (.value (.pointer (some ⟨J, l, none⟩))) w
    clear hdst hc' ho
    have qc : ∀ v, a.eval (.const v) = v := fun _ => rfl
    generalize a.eval = ρ at *
    unfold execOp; rw [← hop]; go_simp
  · have q70 : a.eval (.tmp 70) = .pointer (some ⟨J, l, none⟩) := hin 70 (by decide)
    show (execOp a.eval o).run Yba.prog w = .ok (.value (.int .i32 l)) w
    clear hdst hc' ho
    have qc : ∀ v, a.eval (.const v) = v := fun _ => rfl
    generalize a.eval = ρ at *
    unfold execOp; rw [← hop]; go_simp
  · have q63 : a.eval (.tmp 63) = .slice (some ⟨X, 0, none⟩) N N := hin 63 (by decide)
    have q71 : a.eval (.tmp 71) = .int .i32 l := hin 71 (by decide)
    show (execOp a.eval o).run Yba.prog w = .ok (.value (.pointer (some ⟨X, l, none⟩))) w
    clear hdst hc' ho
    have qc : ∀ v, a.eval (.const v) = v := fun _ => rfl
    generalize a.eval = ρ at *
    unfold execOp; rw [← hop]; go_simp
  · have q72 : a.eval (.tmp 72) = .pointer (some ⟨X, l, none⟩) := hin 72 (by decide)
    show (execOp a.eval o).run Yba.prog w = .ok (.value (.int .i64 x)) w
    clear hdst hc' ho
    have qc : ∀ v, a.eval (.const v) = v := fun _ => rfl
    generalize a.eval = ρ at *
    unfold execOp; rw [← hop]; go_simp

end Go.Proofs.Ybulkhwa

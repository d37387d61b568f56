import Derived.Test.YbulkhwaL6
import Derived.Test.YbulkhwaBag
namespace Go.Proofs.Ybulkhwa
open Go.RowKit Go.Pool

def tabR65 : List (Option Nat × Op) := [(some 248, .move (.tmp 28)),
  (some 249, .move (.tmp 29)),
  (some 250, .move (.tmp 30)),
  (some 251, .move (.tmp 30)),
  (some 252, .move (.tmp 33)),
  (some 253, .move (.tmp 34)),
  (some 254, .move (.tmp 25)),
  (some 255, .makeSlice 24 (.tmp 254) (.tmp 254)),
  (some 256, .move (.tmp 36)),
  (some 257, .move (.tmp 31)),
  (some 258, .move (.tmp 32)),
  (some 259, .load 60 (.tmp 44)),
  (some 260, .buildSlice 77 1 #[(0, .tmp 259)]),
  (some 261, .move (.tmp 45)),
  (some 262, .move (.tmp 46)),
  (some 263, .move (.tmp 48)),
  (some 264, .move (.tmp 47)),
  (some 265, .move (.tmp 56)),
  (some 266, .build 89 #[(0, .tmp 248), (1, .tmp 249), (2, .tmp 250), (3, .tmp 251), (4, .tmp 252), (5, .tmp 253), (7, .tmp 255), (10, .tmp 256), (15, .tmp 257), (16, .tmp 258), (20, .tmp 260), (21, .tmp 261), (22, .tmp 262), (23, .tmp 263), (24, .tmp 264), (29, .tmp 265)]),
  (some 267, .box 89 (.tmp 266)),
  (some 57, .assign (.tmp 267))]
def DR65 : List Nat := [248, 249, 250, 251, 252, 253, 254, 255, 256, 257, 258, 259, 260, 261, 262, 263, 264, 265, 266, 267, 57]
def isR65 : Nat → Bool := fun s => s == 255 || s == 260 || s == 266 || s == 267 || s == 57
def inR65 : List (Nat × Nat) := [(7, 254), (12, 259), (18, 248), (18, 249), (18, 250), (18, 251), (18, 252), (18, 253), (18, 255), (18, 256), (18, 257), (18, 258), (18, 260), (18, 261), (18, 262), (18, 263), (18, 264), (18, 265), (19, 266), (20, 267)]
def outR65 : List (Nat × Nat) := [(0, 28), (1, 29), (2, 30), (3, 30), (4, 33), (5, 34), (6, 25), (8, 36), (9, 31), (10, 32), (11, 44), (13, 45), (14, 46), (15, 48), (16, 47), (17, 56)]
def VR65 (v28 v29 v30 v31 v32 v33 v34 v36 v45 v46 v47 v48 v56 : Value) (N : Nat) (hp : Option Addr) (hn hc : Nat) (cn iv : Int) : Nat → Value := fun s => if s = 248 then v28 else if s = 249 then v29 else if s = 250 then v30 else if s = 251 then v30 else if s = 252 then v33 else if s = 253 then v34 else if s = 254 then .int .i32 N else if s = 256 then v36 else if s = 257 then v31 else if s = 258 then v32 else if s = 259 then .agg #[.slice hp hn hc, .int .i32 cn, .int .u32 iv] else if s = 261 then v45 else if s = 262 then v46 else if s = 263 then v48 else if s = 264 then v47 else if s = 265 then v56 else undef

set_option maxHeartbeats 2000000 in
theorem R65_pure (v28 v29 v30 v31 v32 v33 v34 v36 v45 v46 v47 v48 v56 : Value) (N q0 : Nat) (hp : Option Addr) (hn hc : Nat) (cn iv : Int) {ops : Array Oper} {a0 : Act} (hops : ops.toList.map (fun o => (o.dst, o.op)) = tabR65)
    (h28 : a0.eval (.tmp 28) = v28) (h29 : a0.eval (.tmp 29) = v29) (h30 : a0.eval (.tmp 30) = v30) (h31 : a0.eval (.tmp 31) = v31) (h32 : a0.eval (.tmp 32) = v32) (h33 : a0.eval (.tmp 33) = v33) (h34 : a0.eval (.tmp 34) = v34) (h36 : a0.eval (.tmp 36) = v36) (h45 : a0.eval (.tmp 45) = v45) (h46 : a0.eval (.tmp 46) = v46) (h47 : a0.eval (.tmp 47) = v47) (h48 : a0.eval (.tmp 48) = v48) (h56 : a0.eval (.tmp 56) = v56) (h25 : a0.eval (.tmp 25) = .int .i32 N) (h44 : a0.eval (.tmp 44) = .pointer (some ⟨q0, 0, none⟩))
    (i : Nat) (o : Oper) (d : Nat) (a : Act) (e : Nat → Value) (w : World) (ho : ops[i]? = some o) (hc' : [7, 12, 18, 19, 20].contains i = false) (hd : o.dst = some d)
    (hin : ∀ s, (i, s) ∈ inR65 → a.eval (.tmp s) = mix isR65 (VR65 v28 v29 v30 v31 v32 v33 v34 v36 v45 v46 v47 v48 v56 N hp hn hc cn iv) e s) (hout : ∀ s, (i, s) ∈ outR65 → a.eval (.tmp s) = a0.eval (.tmp s)) (i0 : w.cell? ⟨q0, 0, none⟩ = some (.slice hp hn hc)) (i1 : w.cell? ⟨q0, 1, none⟩ = some (.int .i32 cn)) (i2 : w.cell? ⟨q0, 2, none⟩ = some (.int .u32 iv)) :
    (execOp a.eval o).run Yba.prog w = .ok (.value (VR65 v28 v29 v30 v31 v32 v33 v34 v36 v45 v46 v47 v48 v56 N hp hn hc cn iv d)) w := by
  have hlen : ops.size = 21 := by
    have := congrArg List.length hops
    simpa [tabR65] using this
  have hlt : i < 21 := by rw [← hlen]; exact (Array.getElem?_eq_some_iff.1 ho).1
  have hat := op_at hops i o ho
  clear hops hlen
  have hi : i = 0 ∨ i = 1 ∨ i = 2 ∨ i = 3 ∨ i = 4 ∨ i = 5 ∨ i = 6 ∨ i = 7 ∨ i = 8 ∨ i = 9 ∨ i = 10 ∨ i = 11 ∨ i = 12 ∨ i = 13 ∨ i = 14 ∨ i = 15 ∨ i = 16 ∨ i = 17 ∨ i = 18 ∨ i = 19 ∨ i = 20 := by omega
  rcases hi with rfl | rfl | rfl | rfl | rfl | rfl | rfl | rfl | rfl | rfl | rfl | rfl | rfl | rfl | rfl | rfl | rfl | rfl | rfl | rfl | rfl
  all_goals
    simp only [tabR65, List.getElem?_cons_zero, List.getElem?_cons_succ, Option.some.injEq, Prod.mk.injEq] at hat
    obtain ⟨hdst, hop⟩ := hat
    rw [← hdst] at hd
    try cases hd
    try exact absurd hc' (by decide)
  · have q28 : a.eval (.tmp 28) = v28 := (hout 28 (by decide)).trans h28
    show (execOp a.eval o).run Yba.prog w = .ok (.value (v28)) w
    clear hdst hc' ho
    have qc : ∀ v, a.eval (.const v) = v := fun _ => rfl
    generalize a.eval = ρ at *
    unfold execOp; rw [← hop]; go_simp
  · have q29 : a.eval (.tmp 29) = v29 := (hout 29 (by decide)).trans h29
    show (execOp a.eval o).run Yba.prog w = .ok (.value (v29)) w
    clear hdst hc' ho
    have qc : ∀ v, a.eval (.const v) = v := fun _ => rfl
    generalize a.eval = ρ at *
    unfold execOp; rw [← hop]; go_simp
  · have q30 : a.eval (.tmp 30) = v30 := (hout 30 (by decide)).trans h30
    show (execOp a.eval o).run Yba.prog w = .ok (.value (v30)) w
    clear hdst hc' ho
    have qc : ∀ v, a.eval (.const v) = v := fun _ => rfl
    generalize a.eval = ρ at *
    unfold execOp; rw [← hop]; go_simp
  · have q30 : a.eval (.tmp 30) = v30 := (hout 30 (by decide)).trans h30
    show (execOp a.eval o).run Yba.prog w = .ok (.value (v30)) w
    clear hdst hc' ho
    have qc : ∀ v, a.eval (.const v) = v := fun _ => rfl
    generalize a.eval = ρ at *
    unfold execOp; rw [← hop]; go_simp
  · have q33 : a.eval (.tmp 33) = v33 := (hout 33 (by decide)).trans h33
    show (execOp a.eval o).run Yba.prog w = .ok (.value (v33)) w
    clear hdst hc' ho
    have qc : ∀ v, a.eval (.const v) = v := fun _ => rfl
    generalize a.eval = ρ at *
    unfold execOp; rw [← hop]; go_simp
  · have q34 : a.eval (.tmp 34) = v34 := (hout 34 (by decide)).trans h34
    show (execOp a.eval o).run Yba.prog w = .ok (.value (v34)) w
    clear hdst hc' ho
    have qc : ∀ v, a.eval (.const v) = v := fun _ => rfl
    generalize a.eval = ρ at *
    unfold execOp; rw [← hop]; go_simp
  · have q25 : a.eval (.tmp 25) = .int .i32 N := (hout 25 (by decide)).trans h25
    show (execOp a.eval o).run Yba.prog w = .ok (.value (.int .i32 N)) w
    clear hdst hc' ho
    have qc : ∀ v, a.eval (.const v) = v := fun _ => rfl
    generalize a.eval = ρ at *
    unfold execOp; rw [← hop]; go_simp
  · have q36 : a.eval (.tmp 36) = v36 := (hout 36 (by decide)).trans h36
    show (execOp a.eval o).run Yba.prog w = .ok (.value (v36)) w
    clear hdst hc' ho
    have qc : ∀ v, a.eval (.const v) = v := fun _ => rfl
    generalize a.eval = ρ at *
    unfold execOp; rw [← hop]; go_simp
  · have q31 : a.eval (.tmp 31) = v31 := (hout 31 (by decide)).trans h31
    show (execOp a.eval o).run Yba.prog w = .ok (.value (v31)) w
    clear hdst hc' ho
    have qc : ∀ v, a.eval (.const v) = v := fun _ => rfl
    generalize a.eval = ρ at *
    unfold execOp; rw [← hop]; go_simp
  · have q32 : a.eval (.tmp 32) = v32 := (hout 32 (by decide)).trans h32
    show (execOp a.eval o).run Yba.prog w = .ok (.value (v32)) w
    clear hdst hc' ho
    have qc : ∀ v, a.eval (.const v) = v := fun _ => rfl
    generalize a.eval = ρ at *
    unfold execOp; rw [← hop]; go_simp
  · have q44 : a.eval (.tmp 44) = .pointer (some ⟨q0, 0, none⟩) := (hout 44 (by decide)).trans h44
    show (execOp a.eval o).run Yba.prog w = .ok (.value (.agg #[.slice hp hn hc, .int .i32 cn, .int .u32 iv])) w
    clear hdst hc' ho
    have qc : ∀ v, a.eval (.const v) = v := fun _ => rfl
    generalize a.eval = ρ at *
    unfold execOp; rw [← hop]; go_simp
  · have q45 : a.eval (.tmp 45) = v45 := (hout 45 (by decide)).trans h45
    show (execOp a.eval o).run Yba.prog w = .ok (.value (v45)) w
    clear hdst hc' ho
    have qc : ∀ v, a.eval (.const v) = v := fun _ => rfl
    generalize a.eval = ρ at *
    unfold execOp; rw [← hop]; go_simp
  · have q46 : a.eval (.tmp 46) = v46 := (hout 46 (by decide)).trans h46
    show (execOp a.eval o).run Yba.prog w = .ok (.value (v46)) w
    clear hdst hc' ho
    have qc : ∀ v, a.eval (.const v) = v := fun _ => rfl
    generalize a.eval = ρ at *
    unfold execOp; rw [← hop]; go_simp
  · have q48 : a.eval (.tmp 48) = v48 := (hout 48 (by decide)).trans h48
    show (execOp a.eval o).run Yba.prog w = .ok (.value (v48)) w
    clear hdst hc' ho
    have qc : ∀ v, a.eval (.const v) = v := fun _ => rfl
    generalize a.eval = ρ at *
    unfold execOp; rw [← hop]; go_simp
  · have q47 : a.eval (.tmp 47) = v47 := (hout 47 (by decide)).trans h47
    show (execOp a.eval o).run Yba.prog w = .ok (.value (v47)) w
    clear hdst hc' ho
    have qc : ∀ v, a.eval (.const v) = v := fun _ => rfl
    generalize a.eval = ρ at *
    unfold execOp; rw [← hop]; go_simp
  · have q56 : a.eval (.tmp 56) = v56 := (hout 56 (by decide)).trans h56
    show (execOp a.eval o).run Yba.prog w = .ok (.value (v56)) w
    clear hdst hc' ho
    have qc : ∀ v, a.eval (.const v) = v := fun _ => rfl
    generalize a.eval = ρ at *
    unfold execOp; rw [← hop]; go_simp

/-- the manager's cells, of the sixteen values that the literal names -/
def mg (w0 w1 w2 w3 w4 w5 w7 w10 w15 w16 w20 w21 w22 w23 w24 w29 : Value) : Array Value := #[w0, w1, w2, w3, w4, w5, .slice none 0 0, w7, .slice none 0 0, .slice none 0 0, w10, .int .i32 0, .int .i32 0, .slice none 0 0, .slice none 0 0, w15, w16, .slice none 0 0, .slice none 0 0, .slice none 0 0, w20, w21, w22, w23, w24, .slice none 0 0, .int .i64 0, .slice none 0 0, .slice none 0 0, w29, .slice none 0 0, .nilIface, .int .u8 0, .slice none 0 0, .slice none 0 0, .slice none 0 0, .slice none 0 0, .slice none 0 0, .slice none 0 0, .slice none 0 0, .slice none 0 0, .slice none 0 0, .slice none 0 0, .slice none 0 0, .slice none 0 0, .slice none 0 0, .slice none 0 0]

theorem build89v (a0 a1 a2 a3 a4 a5 a7 a10 a15 a16 a20 a21 a22 a23 a24 : Option Addr) (n0 c0 n1 c1 n2 c2 n3 c3 n4 c4 n5 c5 n7 c7 n10 c10 n15 c15 n16 c16 n20 c20 n21 c21 n22 c22 n23 c23 n24 c24 : Nat) (f : Fn) (x y : Array Value) (w : World) :
    (do let v ← Instr.build 89 #[(0, .slice a0 n0 c0), (1, .slice a1 n1 c1), (2, .slice a2 n2 c2), (3, .slice a3 n3 c3), (4, .slice a4 n4 c4), (5, .slice a5 n5 c5), (7, .slice a7 n7 c7), (10, .slice a10 n10 c10), (15, .slice a15 n15 c15), (16, .slice a16 n16 c16), (20, .slice a20 n20 c20), (21, .slice a21 n21 c21), (22, .slice a22 n22 c22), (23, .slice a23 n23 c23), (24, .slice a24 n24 c24), (29, (.func f x y))]; pure (Next.value v)).run Yba.prog w = .ok (.value (.agg (mg (.slice a0 n0 c0) (.slice a1 n1 c1) (.slice a2 n2 c2) (.slice a3 n3 c3) (.slice a4 n4 c4) (.slice a5 n5 c5) (.slice a7 n7 c7) (.slice a10 n10 c10) (.slice a15 n15 c15) (.slice a16 n16 c16) (.slice a20 n20 c20) (.slice a21 n21 c21) (.slice a22 n22 c22) (.slice a23 n23 c23) (.slice a24 n24 c24) (.func f x y)))) w := by kernel_rfl

theorem box89v (C : Array Value) (w : World) : (do let v ← Instr.box 89 (.agg C); pure (Next.value v)).run Yba.prog w = .ok (.value (.pointer (some ⟨w.heap.size, 0, none⟩))) (w.alloc (.cells C 89)) := by kernel_rfl

theorem exec_build89 {a : Act} {o : Oper} (hop : o.op = .build 89 #[(0, .tmp 248), (1, .tmp 249), (2, .tmp 250), (3, .tmp 251), (4, .tmp 252), (5, .tmp 253), (7, .tmp 255), (10, .tmp 256), (15, .tmp 257), (16, .tmp 258), (20, .tmp 260), (21, .tmp 261), (22, .tmp 262), (23, .tmp 263), (24, .tmp 264), (29, .tmp 265)]) (w : World) (r : Result Next)
    {u0 u1 u2 u3 u4 u5 u7 u10 u15 u16 u20 u21 u22 u23 u24 u29 : Value} (e0 : a.eval (.tmp 248) = u0) (e1 : a.eval (.tmp 249) = u1) (e2 : a.eval (.tmp 250) = u2) (e3 : a.eval (.tmp 251) = u3) (e4 : a.eval (.tmp 252) = u4) (e5 : a.eval (.tmp 253) = u5) (e7 : a.eval (.tmp 255) = u7) (e10 : a.eval (.tmp 256) = u10) (e15 : a.eval (.tmp 257) = u15) (e16 : a.eval (.tmp 258) = u16) (e20 : a.eval (.tmp 260) = u20) (e21 : a.eval (.tmp 261) = u21) (e22 : a.eval (.tmp 262) = u22) (e23 : a.eval (.tmp 263) = u23) (e24 : a.eval (.tmp 264) = u24) (e29 : a.eval (.tmp 265) = u29)
    (h : (do let v ← Instr.build 89 #[(0, u0), (1, u1), (2, u2), (3, u3), (4, u4), (5, u5), (7, u7), (10, u10), (15, u15), (16, u16), (20, u20), (21, u21), (22, u22), (23, u23), (24, u24), (29, u29)]; pure (Next.value v)).run Yba.prog w = r) : (execOp a.eval o).run Yba.prog w = r := by
  subst h e0 e1 e2 e3 e4 e5 e7 e10 e15 e16 e20 e21 e22 e23 e24 e29
  unfold execOp; rw [hop]; kernel_rfl

/-- a slice's three parts -/
def sl (p : Option Addr × Nat × Nat) : Value := .slice p.1 p.2.1 p.2.2

section
variable (p28 p29 p30 p31 p32 p33 p34 p36 p45 p46 p47 p48 : Option Addr × Nat × Nat) (caps : Array Value) (N : Nat)

/-- the manager's cells; D: 'done', I: 'items' -/
def mgv (D I : Nat) : Array Value := mg (sl p28) (sl p29) (sl p30) (sl p30) (sl p33) (sl p34) (.slice (some ⟨D, 0, none⟩) N N) (sl p36) (sl p31) (sl p32) (.slice (some ⟨I, 0, none⟩) 1 1) (sl p45) (sl p46) (sl p48) (sl p47) (.func (.func 10) #[] caps)

variable (q0 : Nat) (hp : Option Addr) (hn hc : Nat) (cn iv : Int)

/-- the two new rows, in either order -/
def two (w : World) (D I : Nat) (b : World) : Prop :=
  (D = w.heap.size ∧ I = w.heap.size + 1 ∧ b = (w.drew.alloc (.cells (i32Z N) 21)).alloc (.cells #[.slice hp hn hc, .int .i32 cn, .int .u32 iv] 60)) ∨
  (I = w.heap.size ∧ D = w.heap.size + 1 ∧ b = (w.drew.alloc (.cells #[.slice hp hn hc, .int .i32 cn, .int .u32 iv] 60)).alloc (.cells (i32Z N) 21))

structure S65 (w : World) (M : Nat → Bool) (e : Nat → Value) (w' : World) (D I : Nat) (b : World) : Prop where
  st : (M 7 = false ∧ M 12 = false ∧ b = w.drew) ∨ (M 7 = true ∧ M 12 = false ∧ D = w.heap.size ∧ b = w.drew.alloc (.cells (i32Z N) 21) ∧ e 255 = .slice (some ⟨D, 0, none⟩) N N) ∨
    (M 7 = false ∧ M 12 = true ∧ I = w.heap.size ∧ b = w.drew.alloc (.cells #[.slice hp hn hc, .int .i32 cn, .int .u32 iv] 60) ∧ e 260 = .slice (some ⟨I, 0, none⟩) 1 1) ∨
    (M 7 = true ∧ M 12 = true ∧ e 255 = .slice (some ⟨D, 0, none⟩) N N ∧ e 260 = .slice (some ⟨I, 0, none⟩) 1 1 ∧ two N hp hn hc cn iv w D I b)
  m18 : M 18 = true → M 7 = true ∧ M 12 = true ∧ e 266 = .agg (mgv p28 p29 p30 p31 p32 p33 p34 p36 p45 p46 p47 p48 caps N D I)
  n19 : M 19 = false → w' = b
  m19 : M 19 = true → M 18 = true ∧ w' = b.alloc (.cells (mgv p28 p29 p30 p31 p32 p33 p34 p36 p45 p46 p47 p48 caps N D I) 89) ∧ e 267 = .pointer (some ⟨w.heap.size + 2, 0, none⟩)
  m20 : M 20 = true → M 19 = true ∧ e 57 = .pointer (some ⟨w.heap.size + 2, 0, none⟩)

theorem two_size {w : World} {D I : Nat} {b : World} (h : two N hp hn hc cn iv w D I b) : b.heap.size = w.heap.size + 2 := by
  rcases h with ⟨_, _, rfl⟩ | ⟨_, _, rfl⟩ <;> simp

set_option maxHeartbeats 4000000 in
theorem r65 {ops : Array Oper} {rid : Nat} {a0 : Act} {w : World} {Q : Exit → Act → World → Prop}
    (hm : Yba.prog.follows .mixedOrders = true) (hsz : a0.tmps.size = 564) (hops : ops.toList.map (fun o => (o.dst, o.op)) = tabR65) (hB : bagB ops [7, 12, 18, 19, 20] isR65 DR65 564 = true) (hR : readsB ops inR65 outR65 = true)
    (hx1 : waits ops 18 7 = true) (hx2 : waits ops 18 12 = true) (hx3 : waits ops 19 18 = true) (hx4 : waits ops 20 19 = true)
    (h28 : a0.eval (.tmp 28) = sl p28) (h29 : a0.eval (.tmp 29) = sl p29) (h30 : a0.eval (.tmp 30) = sl p30) (h31 : a0.eval (.tmp 31) = sl p31) (h32 : a0.eval (.tmp 32) = sl p32) (h33 : a0.eval (.tmp 33) = sl p33) (h34 : a0.eval (.tmp 34) = sl p34) (h36 : a0.eval (.tmp 36) = sl p36) (h45 : a0.eval (.tmp 45) = sl p45) (h46 : a0.eval (.tmp 46) = sl p46) (h47 : a0.eval (.tmp 47) = sl p47) (h48 : a0.eval (.tmp 48) = sl p48) (h56 : a0.eval (.tmp 56) = .func (.func 10) #[] caps) (h25 : a0.eval (.tmp 25) = .int .i32 N) (h44 : a0.eval (.tmp 44) = .pointer (some ⟨q0, 0, none⟩)) (hN : N ≤ 1024)
    (i0 : w.cell? ⟨q0, 0, none⟩ = some (.slice hp hn hc)) (i1 : w.cell? ⟨q0, 1, none⟩ = some (.int .i32 cn)) (i2 : w.cell? ⟨q0, 2, none⟩ = some (.int .u32 iv))
    (hend : ∀ y D I b, two N hp hn hc cn iv w D I b → y 57 = .pointer (some ⟨w.heap.size + 2, 0, none⟩) → Q .normal (lay DR65 y a0) (b.alloc (.cells (mgv p28 p29 p30 p31 p32 p33 p34 p36 p45 p46 p47 p48 caps N D I) 89))) :
    (Code.region rid ops true).wp Yba.prog Q a0 w := by
  have lq : q0 < w.heap.size := World.block_lt_of_cell? _ _ i0
  refine wp_region_bag hm [7, 12, 18, 19, 20] isR65 DR65 (by rw [hsz]; exact hB) inR65 outR65 hR (VR65 (sl p28) (sl p29) (sl p30) (sl p31) (sl p32) (sl p33) (sl p34) (sl p36) (sl p45) (sl p46) (sl p47) (sl p48) (.func (.func 10) #[] caps) N hp hn hc cn iv)
    (fun M e w' => ∃ D I b, S65 p28 p29 p30 p31 p32 p33 p34 p36 p45 p46 p47 p48 caps N hp hn hc cn iv w M e w' D I b) (fun _ => undef) ⟨0, 0, w.drew, Or.inl ⟨rfl, rfl, rfl⟩, fun h => (by cases h), fun _ => rfl, fun h => (by cases h), fun h => (by cases h)⟩ ?_ ?_ ?_
  · rintro i o d a e M w' ho hc' hd hin hout ⟨D, I, b, hS⟩
    have K : Only [] w w' := by
      have kb : Only [] w b := by
        rcases hS.st with ⟨_, _, rfl⟩ | ⟨_, _, _, rfl, _⟩ | ⟨_, _, _, rfl, _⟩ | ⟨_, _, _, _, h | h⟩
        · exact (Only.refl _ _).drew
        · exact (Only.refl _ _).drew.alloc _
        · exact (Only.refl _ _).drew.alloc _
        · rw [h.2.2]; exact ((Only.refl _ _).drew.alloc _).alloc _
        · rw [h.2.2]; exact ((Only.refl _ _).drew.alloc _).alloc _
      cases h19 : M 19 with
      | false => rw [hS.n19 h19]; exact kb
      | true => rw [(hS.m19 h19).2.1]; exact kb.alloc _
    exact R65_pure (sl p28) (sl p29) (sl p30) (sl p31) (sl p32) (sl p33) (sl p34) (sl p36) (sl p45) (sl p46) (sl p47) (sl p48) (.func (.func 10) #[] caps) N q0 hp hn hc cn iv hops h28 h29 h30 h31 h32 h33 h34 h36 h45 h46 h47 h48 h56 h25 h44 i o d a e w' ho hc' hd hin hout
      ((K.cell (p := ⟨q0, 0, none⟩) lq (by simp)).trans i0) ((K.cell (p := ⟨q0, 1, none⟩) lq (by simp)).trans i1) ((K.cell (p := ⟨q0, 2, none⟩) lq (by simp)).trans i2)
  · rintro i o a e M w' hci ho hMi hwt hin hout ⟨D, I, b, hS⟩
    have hi : i = 7 ∨ i = 12 ∨ i = 18 ∨ i = 19 ∨ i = 20 := by simpa using hci
    have hat := op_at hops i o ho
    rcases hi with rfl | rfl | rfl | rfl | rfl
    all_goals
      simp only [tabR65, List.getElem?_cons_zero, List.getElem?_cons_succ, Option.some.injEq, Prod.mk.injEq] at hat
      obtain ⟨hdst, hop⟩ := hat
      unfold Oper.wp
    · have f18 : M 18 = false := by
        cases h : M 18 with
        | false => rfl
        | true => have := (hS.m18 h).1; rw [hMi] at this; cases this
      have f19 : M 19 = false := by
        cases h : M 19 with
        | false => rfl
        | true => have := (hS.m19 h).1; rw [f18] at this; cases this
      have f20 : M 20 = false := by
        cases h : M 20 with
        | false => rfl
        | true => have := (hS.m20 h).1; rw [f19] at this; cases this
      have q254 : a.eval (.tmp 254) = .int .i32 N := hin 254 (by decide)
      have hrun : (execOp a.eval o).run Yba.prog w' = .ok (.value (.slice (some ⟨w'.heap.size, 0, none⟩) N N)) (w'.alloc (.cells (i32Z N) 21)) := by
        have m := mkI24 N w' hN
        clear ho hend hops hR hB hdst hin hout hS hwt hci
        generalize a.eval = ρ at *
        unfold execOp; rw [← hop]; go_simp
      rw [hrun]
      have wb := hS.n19 f19
      rcases hS.st with ⟨a1, a2, a3⟩ | ⟨a1, _⟩ | ⟨a1, a2, a3, a4, a5⟩ | ⟨a1, _⟩
      · refine ⟨_, fun s => if o.dst = some s then .slice (some ⟨w'.heap.size, 0, none⟩) N N else e s, rfl, fun s => rfl, w.heap.size, I, w.drew.alloc (.cells (i32Z N) 21), Or.inr (Or.inl ⟨by simp, by simp [a2], rfl, rfl, ?_⟩), fun h => (by simp [f18] at h), fun _ => ?_, fun h => (by simp [f19] at h), fun h => (by simp [f20] at h)⟩
        · simp [← hdst, wb, a3]
        · rw [wb, a3]
      · rw [hMi] at a1; cases a1
      · refine ⟨_, fun s => if o.dst = some s then .slice (some ⟨w'.heap.size, 0, none⟩) N N else e s, rfl, fun s => rfl, w.heap.size + 1, I, _, Or.inr (Or.inr (Or.inr ⟨by simp, by simp [a2], ?_, ?_, Or.inr ⟨a3, rfl, rfl⟩⟩)), fun h => (by simp [f18] at h), fun _ => ?_, fun h => (by simp [f19] at h), fun h => (by simp [f20] at h)⟩
        · simp [← hdst, wb, a4]
        · simp [← hdst, a5]
        · rw [wb, a4]
      · rw [hMi] at a1; cases a1
    · have f18 : M 18 = false := by
        cases h : M 18 with
        | false => rfl
        | true => have := (hS.m18 h).2.1; rw [hMi] at this; cases this
      have f19 : M 19 = false := by
        cases h : M 19 with
        | false => rfl
        | true => have := (hS.m19 h).1; rw [f18] at this; cases this
      have f20 : M 20 = false := by
        cases h : M 20 with
        | false => rfl
        | true => have := (hS.m20 h).1; rw [f19] at this; cases this
      have q259 : a.eval (.tmp 259) = .agg #[.slice hp hn hc, .int .i32 cn, .int .u32 iv] := hin 259 (by decide)
      have hrun : (execOp a.eval o).run Yba.prog w' = .ok (.value (.slice (some ⟨w'.heap.size, 0, none⟩) 1 1)) (w'.alloc (.cells #[.slice hp hn hc, .int .i32 cn, .int .u32 iv] 60)) := by
        clear ho hend hops hR hB hdst hin hout hS hwt hci
        generalize a.eval = ρ at *
        unfold execOp; rw [← hop]; go_simp
      rw [hrun]
      have wb := hS.n19 f19
      rcases hS.st with ⟨a1, a2, a3⟩ | ⟨a1, a2, a3, a4, a5⟩ | ⟨_, a1, _⟩ | ⟨_, a1, _⟩
      · refine ⟨_, fun s => if o.dst = some s then .slice (some ⟨w'.heap.size, 0, none⟩) 1 1 else e s, rfl, fun s => rfl, D, w.heap.size, _, Or.inr (Or.inr (Or.inl ⟨by simp [a1], by simp, rfl, rfl, ?_⟩)), fun h => (by simp [f18] at h), fun _ => ?_, fun h => (by simp [f19] at h), fun h => (by simp [f20] at h)⟩
        · simp [← hdst, wb, a3]
        · rw [wb, a3]
      · refine ⟨_, fun s => if o.dst = some s then .slice (some ⟨w'.heap.size, 0, none⟩) 1 1 else e s, rfl, fun s => rfl, D, w.heap.size + 1, _, Or.inr (Or.inr (Or.inr ⟨by simp [a1], by simp, ?_, ?_, Or.inl ⟨a3, rfl, rfl⟩⟩)), fun h => (by simp [f18] at h), fun _ => ?_, fun h => (by simp [f19] at h), fun h => (by simp [f20] at h)⟩
        · simp [← hdst, a5]
        · simp [← hdst, wb, a4]
        · rw [wb, a4]
      · rw [hMi] at a1; cases a1
      · rw [hMi] at a1; cases a1
    · have t7 := hwt 7 (by simp) hx1
      have t12 := hwt 12 (by simp) hx2
      have f19 : M 19 = false := by
        cases h : M 19 with
        | false => rfl
        | true => have := (hS.m19 h).1; rw [hMi] at this; cases this
      have f20 : M 20 = false := by
        cases h : M 20 with
        | false => rfl
        | true => have := (hS.m20 h).1; rw [f19] at this; cases this
      rcases hS.st with ⟨a1, _⟩ | ⟨_, a1, _⟩ | ⟨a1, _⟩ | ⟨_, _, a3, a4, a5⟩
      · rw [t7] at a1; cases a1
      · rw [t12] at a1; cases a1
      · rw [t7] at a1; cases a1
      · have hrun : (execOp a.eval o).run Yba.prog w' = .ok (.value (.agg (mgv p28 p29 p30 p31 p32 p33 p34 p36 p45 p46 p47 p48 caps N D I))) w' :=
          exec_build89 hop.symm w' _ (hin 248 (by decide)) (hin 249 (by decide)) (hin 250 (by decide)) (hin 251 (by decide)) (hin 252 (by decide)) (hin 253 (by decide)) ((hin 255 (by decide)).trans a3) (hin 256 (by decide)) (hin 257 (by decide)) (hin 258 (by decide)) ((hin 260 (by decide)).trans a4) (hin 261 (by decide)) (hin 262 (by decide)) (hin 263 (by decide)) (hin 264 (by decide)) (hin 265 (by decide))
            (build89v _ _ _ _ _ _ _ _ _ _ _ _ _ _ _ _ _ _ _ _ _ _ _ _ _ _ _ _ _ _ _ _ _ _ _ _ _ _ _ _ _ _ _ _ _ _ _ _ w')
        rw [hrun]
        refine ⟨_, fun s => if o.dst = some s then .agg (mgv p28 p29 p30 p31 p32 p33 p34 p36 p45 p46 p47 p48 caps N D I) else e s, rfl, fun s => rfl, D, I, b, Or.inr (Or.inr (Or.inr ⟨by simp [t7], by simp [t12], by simp [← hdst, a3], by simp [← hdst, a4], a5⟩)), fun _ => ⟨by simp [t7], by simp [t12], by simp [← hdst]⟩, fun h => hS.n19 f19, fun h => (by simp [f19] at h), fun h => (by simp [f20] at h)⟩
    · have t18 := hwt 18 (by simp) hx3
      obtain ⟨t7, t12, e266⟩ := hS.m18 t18
      have f20 : M 20 = false := by
        cases h : M 20 with
        | false => rfl
        | true => have := (hS.m20 h).1; rw [hMi] at this; cases this
      rcases hS.st with ⟨a1, _⟩ | ⟨_, a1, _⟩ | ⟨a1, _⟩ | ⟨_, _, a3, a4, a5⟩
      · rw [t7] at a1; cases a1
      · rw [t12] at a1; cases a1
      · rw [t7] at a1; cases a1
      · have q266 : a.eval (.tmp 266) = .agg (mgv p28 p29 p30 p31 p32 p33 p34 p36 p45 p46 p47 p48 caps N D I) := (hin 266 (by decide)).trans e266
        have hrun : (execOp a.eval o).run Yba.prog w' = .ok (.value (.pointer (some ⟨w'.heap.size, 0, none⟩))) (w'.alloc (.cells (mgv p28 p29 p30 p31 p32 p33 p34 p36 p45 p46 p47 p48 caps N D I) 89)) := by
          unfold execOp; rw [← hop]
          show (do let v ← Instr.box 89 (a.eval (.tmp 266)); pure (Next.value v)).run Yba.prog w' = _
          rw [q266]
          exact box89v _ w'
        rw [hrun]
        have wb := hS.n19 hMi
        have sb := two_size N hp hn hc cn iv a5
        refine ⟨_, fun s => if o.dst = some s then .pointer (some ⟨w'.heap.size, 0, none⟩) else e s, rfl, fun s => rfl, D, I, b, Or.inr (Or.inr (Or.inr ⟨by simp [t7], by simp [t12], by simp [← hdst, a3], by simp [← hdst, a4], a5⟩)), fun _ => ⟨by simp [t7], by simp [t12], by simp [← hdst, e266]⟩, fun h => (by simp at h), fun _ => ⟨by simp [t18], by rw [wb], by simp [← hdst, wb, sb]⟩, fun h => (by simp [f20] at h)⟩
    · have t19 := hwt 19 (by simp) hx4
      obtain ⟨t18, ew, e267⟩ := hS.m19 t19
      obtain ⟨t7, t12, e266⟩ := hS.m18 t18
      rcases hS.st with ⟨a1, _⟩ | ⟨_, a1, _⟩ | ⟨a1, _⟩ | ⟨_, _, a3, a4, a5⟩
      · rw [t7] at a1; cases a1
      · rw [t12] at a1; cases a1
      · rw [t7] at a1; cases a1
      · have q267 : a.eval (.tmp 267) = .pointer (some ⟨w.heap.size + 2, 0, none⟩) := (hin 267 (by decide)).trans e267
        have hrun : (execOp a.eval o).run Yba.prog w' = .ok (.value (.pointer (some ⟨w.heap.size + 2, 0, none⟩))) w' := by
          clear ho hend hops hR hB hdst hin hout hS hwt hci
          generalize a.eval = ρ at *
          unfold execOp; rw [← hop]; go_simp
        rw [hrun]
        refine ⟨_, fun s => if o.dst = some s then .pointer (some ⟨w.heap.size + 2, 0, none⟩) else e s, rfl, fun s => rfl, D, I, b, Or.inr (Or.inr (Or.inr ⟨by simp [t7], by simp [t12], by simp [← hdst, a3], by simp [← hdst, a4], a5⟩)), fun _ => ⟨by simp [t7], by simp [t12], by simp [← hdst, e266]⟩, fun h => (by simp [t19] at h), fun _ => ⟨by simp [t18], ew, by simp [← hdst, e267]⟩, fun _ => ⟨by simp [t19], by simp [← hdst]⟩⟩
  · rintro e M w' hall ⟨D, I, b, hS⟩
    have t20 := hall 20 (by simp)
    obtain ⟨t19, e57⟩ := hS.m20 t20
    obtain ⟨t18, ew, _⟩ := hS.m19 t19
    obtain ⟨t7, t12, _⟩ := hS.m18 t18
    rcases hS.st with ⟨a1, _⟩ | ⟨_, a1, _⟩ | ⟨a1, _⟩ | ⟨_, _, _, _, a5⟩
    · rw [t7] at a1; cases a1
    · rw [t12] at a1; cases a1
    · rw [t7] at a1; cases a1
    · rw [ew]
      exact hend _ D I b a5 e57
end

end Go.Proofs.Ybulkhwa

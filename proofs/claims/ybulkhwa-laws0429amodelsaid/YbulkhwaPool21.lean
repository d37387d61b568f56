import Derived.Test.YbulkhwaLaw1
namespace Go.Proofs.Ybulkhwa
open Go.RowKit Go.Pool

/-- The closed facts of the law's text, as one Bool. -/
def fitsB (ops : Array Oper) (D : List Nat) (n : Nat) : Bool :=
  (ops.toList.all fun o => match o.dst with
    | some d => D.contains d && decide (d < n)
    | none => false) &&
  (ops.toList.all fun o => o.guard.isNone) &&
  ((List.range ops.size).all fun i => match ops[i]? with
    | some o => o.after.toList.all fun e => !Region.binds .any e || decide (e.on < i)
    | none => true) &&
  (D.all fun d => decide (d < n) && (List.range ops.size).any fun i => match ops[i]? with
    | some o => o.dst == some d
    | none => false)

theorem fits_of {ops : Array Oper} {D : List Nat} {n : Nat} (h : fitsB ops D n = true) : Fits ops D n := by
  unfold fitsB at h
  simp only [Bool.and_eq_true, List.all_eq_true] at h
  obtain ⟨⟨⟨h1, h2⟩, h3⟩, h4⟩ := h
  have mem : ∀ (i : Nat) (o : Oper), ops[i]? = some o → o ∈ ops.toList := fun i o ho => Array.mem_toList_iff.2 (Array.mem_of_getElem? ho)
  refine ⟨fun i o ho => ?_, fun i o ho => ?_, fun i o ho e he hb => ?_, fun d hd => ?_⟩
  · have := h1 o (mem i o ho)
    cases hd : o.dst with
    | none => rw [hd] at this; cases this
    | some d =>
      rw [hd] at this
      simp only [Bool.and_eq_true, List.contains_iff_mem, decide_eq_true_eq] at this
      exact ⟨d, rfl, this.1, this.2⟩
  · have := h2 o (mem i o ho)
    simpa using this
  · have hlt : i < ops.size := (Array.getElem?_eq_some_iff.1 ho).1
    have := h3 i (List.mem_range.2 hlt)
    rw [ho] at this
    simp only [List.all_eq_true] at this
    have := this e (Array.mem_toList_iff.2 he)
    rw [hb] at this
    simpa using this
  · have := h4 d hd
    simp only [decide_eq_true_eq, List.any_eq_true] at this
    obtain ⟨h5, i, _, h6⟩ := this
    refine ⟨h5, i, ?_⟩
    cases ho : ops[i]? with
    | none => rw [ho] at h6; cases h6
    | some o => rw [ho] at h6; exact ⟨o, rfl, by simpa using h6⟩

/-- operation i waits for operation j -/
def needs (ops : Array Oper) (i j : Nat) : Bool := match ops[i]? with
  | some o => o.after.toList.any fun e => Region.binds .any e && e.on == j
  | none => false

theorem of_needs {ops : Array Oper} {i j : Nat} (h : needs ops i j = true) {o : Oper} (ho : ops[i]? = some o) {L : Nat → Bool} (hd : ∀ e ∈ o.after, Region.binds .any e = true → L e.on = true) : L j = true := by
  unfold needs at h
  rw [ho] at h
  simp only [List.any_eq_true, Bool.and_eq_true, beq_iff_eq] at h
  obtain ⟨e, he, hb, rfl⟩ := h
  exact hd e (Array.mem_toList_iff.1 he) hb

def ct : Nat → Array Value := fun i =>
  if i = 3 then #[.int .i32 0, .int .i32 1, .int .i32 2, .int .i32 0, .int .i32 1, .int .i32 2, .int .i32 0, .int .i32 1, .int .i32 2] else
  if i = 4 then #[.int .u8 0, .int .u8 0, .int .u8 0, .int .u8 0, .int .u8 0, .int .u8 0, .int .u8 0, .int .u8 0, .int .u8 0] else
  if i = 5 then #[.int .i32 0, .int .i32 0, .int .i32 0, .int .i32 0, .int .i32 0, .int .i32 0, .int .i32 0, .int .i32 0, .int .i32 0] else
  if i = 6 then #[.int .i32 0, .int .i32 0, .int .i32 0] else if i = 7 then #[.bool false, .bool false, .bool false] else #[.int .i32 (-1), .int .i32 (-1), .int .i32 (-1)]
def ety : Nat → TypeId := fun i => if i = 4 then 41 else if i = 7 then 4 else 21
def eln : Nat → Nat := fun i => if i = 3 then 9 else if i = 4 then 9 else if i = 5 then 9 else 3

theorem run3 (a : Act) (o : Oper) (w : World) (h : o.op = .buildSlice 24 9 #[(0, .const (.int .i32 0)), (1, .const (.int .i32 1)), (2, .const (.int .i32 2)), (3, .const (.int .i32 0)), (4, .const (.int .i32 1)), (5, .const (.int .i32 2)), (6, .const (.int .i32 0)), (7, .const (.int .i32 1)), (8, .const (.int .i32 2))]) :
    (execOp a.eval o).run Yba.prog w = .ok (.value (.slice (some ⟨w.heap.size, 0, none⟩) 9 9)) (w.alloc (.cells (ct 3) 21)) := by
  unfold execOp; rw [h]; kernel_rfl
theorem run4 (a : Act) (o : Oper) (w : World) (h : o.op = .makeSlice 32 (.const (.int .i64 9)) (.const (.int .i64 9))) :
    (execOp a.eval o).run Yba.prog w = .ok (.value (.slice (some ⟨w.heap.size, 0, none⟩) 9 9)) (w.alloc (.cells (ct 4) 41)) := by
  unfold execOp; rw [h]; kernel_rfl
theorem run5 (a : Act) (o : Oper) (w : World) (h : o.op = .makeSlice 24 (.const (.int .i64 9)) (.const (.int .i64 9))) :
    (execOp a.eval o).run Yba.prog w = .ok (.value (.slice (some ⟨w.heap.size, 0, none⟩) 9 9)) (w.alloc (.cells (ct 5) 21)) := by
  unfold execOp; rw [h]; kernel_rfl
theorem run6 (a : Act) (o : Oper) (w : World) (h : o.op = .makeSlice 24 (.const (.int .i64 3)) (.const (.int .i64 3))) :
    (execOp a.eval o).run Yba.prog w = .ok (.value (.slice (some ⟨w.heap.size, 0, none⟩) 3 3)) (w.alloc (.cells (ct 6) 21)) := by
  unfold execOp; rw [h]; kernel_rfl
theorem run7 (a : Act) (o : Oper) (w : World) (h : o.op = .makeSlice 33 (.const (.int .i64 3)) (.const (.int .i64 3))) :
    (execOp a.eval o).run Yba.prog w = .ok (.value (.slice (some ⟨w.heap.size, 0, none⟩) 3 3)) (w.alloc (.cells (ct 7) 4)) := by
  unfold execOp; rw [h]; kernel_rfl
theorem run8 (a : Act) (o : Oper) (w : World) (h : o.op = .buildSlice 24 3 #[(0, .const (.int .i32 (-1))), (1, .const (.int .i32 (-1))), (2, .const (.int .i32 (-1)))]) :
    (execOp a.eval o).run Yba.prog w = .ok (.value (.slice (some ⟨w.heap.size, 0, none⟩) 3 3)) (w.alloc (.cells (ct 8) 21)) := by
  unfold execOp; rw [h]; kernel_rfl

/-- the checker's cells, of the nine values that the literal names -/
def lit15 (v0 v1 v2 v3 v5 v6 v7 v8 v9 : Value) : Array Value := #[v0, v1, v2, v3, .slice none 0 0, .slice none 0 0, .slice none 0 0, .slice none 0 0, .slice none 0 0, .slice none 0 0, v5, v6, v7, v8, v9]

theorem build40 (a0 a1 a2 a3 a5 a6 a7 a8 a9 : Option Addr) (n0 c0 n1 c1 n2 c2 n3 c3 n5 c5 n6 c6 n7 c7 n8 c8 n9 c9 : Nat) (w : World) :
    (Instr.build 40 #[(0, .slice a0 n0 c0), (1, .slice a1 n1 c1), (2, .slice a2 n2 c2), (3, .slice a3 n3 c3), (5, .slice a5 n5 c5), (6, .slice a6 n6 c6), (7, .slice a7 n7 c7), (8, .slice a8 n8 c8), (9, .slice a9 n9 c9)]).run Yba.prog w =
      .ok (.agg (lit15 (.slice a0 n0 c0) (.slice a1 n1 c1) (.slice a2 n2 c2) (.slice a3 n3 c3) (.slice a5 n5 c5) (.slice a6 n6 c6) (.slice a7 n7 c7) (.slice a8 n8 c8) (.slice a9 n9 c9))) w := by kernel_rfl

theorem box40 (C : Array Value) (w : World) : (Instr.box 40 (.agg C)).run Yba.prog w = .ok (.pointer (some ⟨w.heap.size, 0, none⟩)) (w.alloc (.cells C 40)) := by kernel_rfl

theorem build40v (a0 a1 a2 a3 a5 a6 a7 a8 a9 : Option Addr) (n0 c0 n1 c1 n2 c2 n3 c3 n5 c5 n6 c6 n7 c7 n8 c8 n9 c9 : Nat) (w : World) :
    (do let v ← Instr.build 40 #[(0, .slice a0 n0 c0), (1, .slice a1 n1 c1), (2, .slice a2 n2 c2), (3, .slice a3 n3 c3), (5, .slice a5 n5 c5), (6, .slice a6 n6 c6), (7, .slice a7 n7 c7), (8, .slice a8 n8 c8), (9, .slice a9 n9 c9)]; pure (Next.value v)).run Yba.prog w =
      .ok (.value (.agg (lit15 (.slice a0 n0 c0) (.slice a1 n1 c1) (.slice a2 n2 c2) (.slice a3 n3 c3) (.slice a5 n5 c5) (.slice a6 n6 c6) (.slice a7 n7 c7) (.slice a8 n8 c8) (.slice a9 n9 c9)))) w := by kernel_rfl

theorem box40v (C : Array Value) (w : World) : (do let v ← Instr.box 40 (.agg C); pure (Next.value v)).run Yba.prog w = .ok (.value (.pointer (some ⟨w.heap.size, 0, none⟩))) (w.alloc (.cells C 40)) := by kernel_rfl

theorem exec_build40 {a : Act} {o : Oper} (hop : o.op = .build 40 #[(0, .tmp 96), (1, .tmp 97), (2, .tmp 98), (3, .tmp 99), (5, .tmp 100), (6, .tmp 101), (7, .tmp 102), (8, .tmp 103), (9, .tmp 104)]) (w : World) (r : Result Next)
    {v0 v1 v2 v3 v5 v6 v7 v8 v9 : Value} (e0 : a.eval (.tmp 96) = v0) (e1 : a.eval (.tmp 97) = v1) (e2 : a.eval (.tmp 98) = v2) (e3 : a.eval (.tmp 99) = v3) (e5 : a.eval (.tmp 100) = v5) (e6 : a.eval (.tmp 101) = v6) (e7 : a.eval (.tmp 102) = v7) (e8 : a.eval (.tmp 103) = v8) (e9 : a.eval (.tmp 104) = v9)
    (h : (do let v ← Instr.build 40 #[(0, v0), (1, v1), (2, v2), (3, v3), (5, v5), (6, v6), (7, v7), (8, v8), (9, v9)]; pure (Next.value v)).run Yba.prog w = r) : (execOp a.eval o).run Yba.prog w = r := by
  subst h e0 e1 e2 e3 e5 e6 e7 e8 e9
  unfold execOp; rw [hop]; kernel_rfl

/-- the six new rows, as far as they are made -/
structure Bl (w0 w : World) (L : Nat → Bool) (x : Nat → Value) (bl : Nat → Nat) : Prop where
  only : Only [] w0 w
  here : ∀ i, 3 ≤ i → i ≤ 8 → L i = true → x (96 + i) = .slice (some ⟨bl i, 0, none⟩) (eln i) (eln i) ∧ w0.heap.size ≤ bl i ∧ bl i < w.heap.size ∧ w.heap[bl i]? = some (.cells (ct i) (ety i) (0, 0))
  ne : ∀ i j, 3 ≤ i → i ≤ 8 → 3 ≤ j → j ≤ 8 → L i = true → L j = true → i ≠ j → bl i ≠ bl j

theorem heap_alloc_at (w : World) (o : Obj) : (w.alloc o).heap[w.heap.size]? = some o := by
  show (w.heap.push o)[w.heap.size]? = _
  rw [Array.getElem?_push, if_pos rfl]

theorem Bl.make {w0 w : World} {L : Nat → Bool} {x : Nat → Value} {bl : Nat → Nat} (h : Bl w0 w L x bl) (i : Nat) (h3 : 3 ≤ i) (h8 : i ≤ 8) (hL : L i = false) :
    Bl w0 (w.alloc (.cells (ct i) (ety i))) (fun j => if j = i then true else L j) (fun s => if s = 96 + i then .slice (some ⟨w.heap.size, 0, none⟩) (eln i) (eln i) else x s) (upd bl i w.heap.size) := by
  have hs := h.only.size
  refine ⟨h.only.alloc _, fun j j3 j8 hj => ?_, fun j k j3 j8 k3 k8 hj hk hne => ?_⟩
  · by_cases e : j = i
    · subst e
      rw [upd_same, if_pos rfl]
      exact ⟨rfl, hs, by simp, heap_alloc_at _ _⟩
    · simp only [if_neg e] at hj
      obtain ⟨a, b, c, d⟩ := h.here j j3 j8 hj
      rw [upd_other _ _ _ _ e, if_neg (by omega)]
      exact ⟨a, b, by simp; omega, by rw [Below.heap_alloc _ _ _ c]; exact d⟩
  · by_cases e : j = i
    · subst e
      simp only [if_neg (Ne.symm hne)] at hk
      rw [upd_same, upd_other _ _ _ _ (Ne.symm hne)]
      have := (h.here k k3 k8 hk).2.2.1
      omega
    · simp only [if_neg e] at hj
      by_cases e' : k = i
      · subst e'
        rw [upd_same, upd_other _ _ _ _ e]
        have := (h.here j j3 j8 hj).2.2.1
        omega
      · simp only [if_neg e'] at hk
        rw [upd_other _ _ _ _ e, upd_other _ _ _ _ e']
        exact h.ne j k j3 j8 k3 k8 hj hk hne

theorem Bl.pure {w0 w w' : World} {L : Nat → Bool} {x : Nat → Value} {bl : Nat → Nat} (h : Bl w0 w L x bl) (i d : Nat) (v : Value) (hi : i < 3 ∨ 8 < i) (hd : d < 99 ∨ 104 < d) (ho : Only [] w w') :
    Bl w0 w' (fun j => if j = i then true else L j) (fun s => if s = d then v else x s) bl := by
  refine ⟨h.only.trans ho, fun j j3 j8 hj => ?_, fun j k j3 j8 k3 k8 hj hk hne => ?_⟩
  · simp only [if_neg (show ¬ j = i by omega)] at hj
    obtain ⟨a, b, c, d'⟩ := h.here j j3 j8 hj
    rw [if_neg (by omega)]
    exact ⟨a, b, Nat.lt_of_lt_of_le c ho.size, by rw [ho.block _ c (by simp)]; exact d'⟩
  · simp only [if_neg (show ¬ j = i by omega)] at hj
    simp only [if_neg (show ¬ k = i by omega)] at hk
    exact h.ne j k j3 j8 k3 k8 hj hk hne

/-- what stands behind the operations that L lists -/
structure R21 (w0 : World) (v4 v5 v6 : Value) (L : Nat → Bool) (x : Nat → Value) (w : World) (bl : Nat → Nat) (bc : Nat) : Prop where
  rows : Bl w0 w L x bl
  m0 : L 0 = true → x 96 = v4
  m1 : L 1 = true → x 97 = v5
  m2 : L 2 = true → x 98 = v6
  b9 : L 9 = true → (∀ i, i ≤ 8 → L i = true) ∧ x 105 = .agg (lit15 v4 v5 v6 (x 99) (x 100) (x 101) (x 102) (x 103) (x 104))
  b10 : L 10 = true → L 9 = true ∧ x 106 = .pointer (some ⟨bc, 0, none⟩) ∧ w0.heap.size ≤ bc ∧ bc < w.heap.size ∧ w.heap[bc]? = some (.cells (lit15 v4 v5 v6 (x 99) (x 100) (x 101) (x 102) (x 103) (x 104)) 40 (0, 0)) ∧ ∀ i, 3 ≤ i → i ≤ 8 → bl i ≠ bc
  b11 : L 11 = true → L 10 = true ∧ x 13 = x 106

def tab21 : List (Option Nat × Op) := [(some 96, .move (.tmp 4)), (some 97, .move (.tmp 5)), (some 98, .move (.tmp 6)),
  (some 99, .buildSlice 24 9 #[(0, .const (.int .i32 0)), (1, .const (.int .i32 1)), (2, .const (.int .i32 2)), (3, .const (.int .i32 0)), (4, .const (.int .i32 1)), (5, .const (.int .i32 2)), (6, .const (.int .i32 0)), (7, .const (.int .i32 1)), (8, .const (.int .i32 2))]),
  (some 100, .makeSlice 32 (.const (.int .i64 9)) (.const (.int .i64 9))), (some 101, .makeSlice 24 (.const (.int .i64 9)) (.const (.int .i64 9))), (some 102, .makeSlice 24 (.const (.int .i64 3)) (.const (.int .i64 3))), (some 103, .makeSlice 33 (.const (.int .i64 3)) (.const (.int .i64 3))),
  (some 104, .buildSlice 24 3 #[(0, .const (.int .i32 (-1))), (1, .const (.int .i32 (-1))), (2, .const (.int .i32 (-1)))]),
  (some 105, .build 40 #[(0, .tmp 96), (1, .tmp 97), (2, .tmp 98), (3, .tmp 99), (5, .tmp 100), (6, .tmp 101), (7, .tmp 102), (8, .tmp 103), (9, .tmp 104)]), (some 106, .box 40 (.tmp 105)), (some 13, .assign (.tmp 106))]

def D21 : List Nat := [96, 97, 98, 99, 100, 101, 102, 103, 104, 105, 106, 13]

theorem op_at {ops : Array Oper} {T : List (Option Nat × Op)} (h : ops.toList.map (fun o => (o.dst, o.op)) = T) (i : Nat) (o : Oper) (ho : ops[i]? = some o) : T[i]? = some (o.dst, o.op) := by
  rw [← h, List.getElem?_map]
  have : ops.toList[i]? = some o := by simpa using ho
  rw [this]; rfl

section
variable {w0 w : World} {v4 v5 v6 : Value} {L : Nat → Bool} {x : Nat → Value} {bl : Nat → Nat} {bc : Nat}

/-- a new row -/
theorem R21.make (h : R21 w0 v4 v5 v6 L x w bl bc) (i : Nat) (h3 : 3 ≤ i) (h8 : i ≤ 8) (hL : L i = false) :
    R21 w0 v4 v5 v6 (fun j => if j = i then true else L j) (fun s => if s = 96 + i then .slice (some ⟨w.heap.size, 0, none⟩) (eln i) (eln i) else x s) (w.alloc (.cells (ct i) (ety i))) (upd bl i w.heap.size) bc := by
  have n9 : L 9 = false := by
    cases e : L 9 with
    | false => rfl
    | true => have := (h.b9 e).1 i h8; rw [hL] at this; cases this
  have n10 : L 10 = false := by
    cases e : L 10 with
    | false => rfl
    | true => have := (h.b10 e).1; rw [n9] at this; cases this
  refine ⟨h.rows.make i h3 h8 hL, fun e => ?_, fun e => ?_, fun e => ?_, fun e => ?_, fun e => ?_, fun e => ?_⟩
  · simp only [if_neg (show ¬ 0 = i by omega)] at e; rw [if_neg (by omega)]; exact h.m0 e
  · simp only [if_neg (show ¬ 1 = i by omega)] at e; rw [if_neg (by omega)]; exact h.m1 e
  · simp only [if_neg (show ¬ 2 = i by omega)] at e; rw [if_neg (by omega)]; exact h.m2 e
  · simp only [if_neg (show ¬ 9 = i by omega)] at e; rw [n9] at e; cases e
  · simp only [if_neg (show ¬ 10 = i by omega)] at e; rw [n10] at e; cases e
  · simp only [if_neg (show ¬ 11 = i by omega)] at e; have := (h.b11 e).1; rw [n10] at this; cases this

/-- a value moved into one of the first three slots -/
theorem R21.move (h : R21 w0 v4 v5 v6 L x w bl bc) (i : Nat) (hi : i < 3) (hL : L i = false) (v : Value) (hv : v = if i = 0 then v4 else if i = 1 then v5 else v6) :
    R21 w0 v4 v5 v6 (fun j => if j = i then true else L j) (fun s => if s = 96 + i then v else x s) w bl bc := by
  have n9 : L 9 = false := by
    cases e : L 9 with
    | false => rfl
    | true => have := (h.b9 e).1 i (by omega); rw [hL] at this; cases this
  have n10 : L 10 = false := by
    cases e : L 10 with
    | false => rfl
    | true => have := (h.b10 e).1; rw [n9] at this; cases this
  subst hv
  refine ⟨h.rows.pure i (96 + i) _ (by omega) (by omega) (Only.refl _ _), fun e => ?_, fun e => ?_, fun e => ?_, fun e => ?_, fun e => ?_, fun e => ?_⟩
  · by_cases hi0 : i = 0
    · subst hi0; simp
    · simp only [if_neg (show ¬ 0 = i by omega)] at e; rw [if_neg (by omega)]; exact h.m0 e
  · by_cases hi0 : i = 1
    · subst hi0; simp
    · simp only [if_neg (show ¬ 1 = i by omega)] at e; rw [if_neg (by omega)]; exact h.m1 e
  · by_cases hi0 : i = 2
    · subst hi0; simp
    · simp only [if_neg (show ¬ 2 = i by omega)] at e; rw [if_neg (by omega)]; exact h.m2 e
  · simp only [if_neg (show ¬ 9 = i by omega)] at e; rw [n9] at e; cases e
  · simp only [if_neg (show ¬ 10 = i by omega)] at e; rw [n10] at e; cases e
  · simp only [if_neg (show ¬ 11 = i by omega)] at e; have := (h.b11 e).1; rw [n10] at this; cases this

theorem R21.build (h : R21 w0 v4 v5 v6 L x w bl bc) (hL : L 9 = false) (hall : ∀ i, i ≤ 8 → L i = true) :
    R21 w0 v4 v5 v6 (fun j => if j = 9 then true else L j) (fun s => if s = 105 then .agg (lit15 v4 v5 v6 (x 99) (x 100) (x 101) (x 102) (x 103) (x 104)) else x s) w bl bc := by
  have n10 : L 10 = false := by
    cases e : L 10 with
    | false => rfl
    | true => have := (h.b10 e).1; rw [hL] at this; cases this
  refine ⟨h.rows.pure 9 105 _ (by omega) (by omega) (Only.refl _ _), fun e => h.m0 (by simpa using e), fun e => h.m1 (by simpa using e), fun e => h.m2 (by simpa using e), fun _ => ⟨fun i hi => ?_, by simp⟩, fun e => ?_, fun e => ?_⟩
  · rw [if_neg (by omega)]; exact hall i hi
  · have e' : L 10 = true := by simpa using e
    rw [n10] at e'; cases e'
  · have := (h.b11 (by simpa using e)).1
    rw [n10] at this; cases this

theorem R21.box (h : R21 w0 v4 v5 v6 L x w bl bc) (hL : L 10 = false) (h9 : L 9 = true) :
    R21 w0 v4 v5 v6 (fun j => if j = 10 then true else L j) (fun s => if s = 106 then .pointer (some ⟨w.heap.size, 0, none⟩) else x s) (w.alloc (.cells (lit15 v4 v5 v6 (x 99) (x 100) (x 101) (x 102) (x 103) (x 104)) 40)) bl w.heap.size := by
  have hall := (h.b9 h9).1
  refine ⟨h.rows.pure 10 106 _ (by omega) (by omega) ((Only.refl _ _).alloc _), fun e => h.m0 (by simpa using e), fun e => h.m1 (by simpa using e), fun e => h.m2 (by simpa using e), fun _ => ⟨fun i hi => ?_, (h.b9 h9).2⟩, fun e => ⟨by simpa using h9, by simp, h.rows.only.size, by simp, heap_alloc_at _ _, fun i i3 i8 => ?_⟩, fun e => ?_⟩
  · rw [if_neg (by omega)]; exact hall i hi
  · have := (h.rows.here i i3 i8 (hall i i8)).2.2.1
    omega
  · have := (h.b11 (by simpa using e)).1
    rw [hL] at this; cases this

theorem R21.assign (h : R21 w0 v4 v5 v6 L x w bl bc) (h10 : L 10 = true) :
    R21 w0 v4 v5 v6 (fun j => if j = 11 then true else L j) (fun s => if s = 13 then x 106 else x s) w bl bc := by
  refine ⟨h.rows.pure 11 13 _ (by omega) (by omega) (Only.refl _ _), fun e => h.m0 (by simpa using e), fun e => h.m1 (by simpa using e), fun e => h.m2 (by simpa using e), fun e => ?_, fun e => ?_, fun e => ⟨by simpa using h10, by simp⟩⟩
  · have := h.b9 (by simpa using e)
    refine ⟨fun i hi => ?_, by simpa using this.2⟩
    rw [if_neg (by omega)]; exact this.1 i hi
  · have := h.b10 h10
    exact ⟨by simpa using this.1, by simpa using this.2.1, this.2.2.1, this.2.2.2.1, by simpa using this.2.2.2.2.1, this.2.2.2.2.2⟩
end

/-- the region's closed facts -/
def okB (ops : Array Oper) : Bool := fitsB ops D21 308 && (List.range 9).all (fun j => needs ops 9 j) && needs ops 10 9 && needs ops 11 10 && untouched ops 4 && untouched ops 5 && untouched ops 6

/-- The region that makes the checker. -/
theorem pool21 {ops : Array Oper} {id : Nat} {a0 : Act} {w : World} {Q : Exit → Act → World → Prop} (p4 p5 p6 : Option Addr) (n4 c4 n5 c5 n6 c6 : Nat)
    (hm : Yba.prog.follows .mixedOrders = true) (hsz : a0.tmps.size = 308) (hops : ops.toList.map (fun o => (o.dst, o.op)) = tab21) (hok : okB ops = true)
    (h4 : a0.eval (.tmp 4) = .slice p4 n4 c4) (h5 : a0.eval (.tmp 5) = .slice p5 n5 c5) (h6 : a0.eval (.tmp 6) = .slice p6 n6 c6)
    (hend : ∀ x w' bl bc, R21 w.drew (.slice p4 n4 c4) (.slice p5 n5 c5) (.slice p6 n6 c6) (fun _ => true) x w' bl bc → Q .normal (lay D21 x a0) w') :
    (Code.region id ops true).wp Yba.prog Q a0 w := by
  unfold okB at hok
  simp only [Bool.and_eq_true, List.all_eq_true, List.mem_range] at hok
  obtain ⟨⟨⟨⟨⟨⟨hf, k9⟩, k10⟩, k11⟩, u4⟩, u5⟩, u6⟩ := hok
  have hlen : ops.size = 12 := by
    have := congrArg List.length hops
    simpa [tab21] using this
  refine wp_region_pool hm (D := D21) (by rw [hsz]; exact fits_of hf) (fun L x w' => ∃ bl bc, R21 w.drew (.slice p4 n4 c4) (.slice p5 n5 c5) (.slice p6 n6 c6) L x w' bl bc) (fun _ => undef) ⟨fun _ => 0, 0, ?_⟩ ?_ (fun x w' ⟨bl, bc, h⟩ => hend x w' bl bc h)
  · refine ⟨⟨Only.refl _ _, fun i _ h8 h => ?_, fun i j _ h8 _ _ h => ?_⟩, fun h => ?_, fun h => ?_, fun h => ?_, fun h => ?_, fun h => ?_, fun h => ?_⟩
    all_goals
      simp [hlen] at h
      try omega
  · rintro L x w' a i o d ⟨bl, bc, h⟩ hF ho hd hL hdep
    have hlt : i < 12 := by rw [← hlen]; exact (Array.getElem?_eq_some_iff.1 ho).1
    have hat := op_at hops i o ho
    have hall : i = 9 → ∀ j, j ≤ 8 → L j = true := fun e j hj => by subst e; exact of_needs (k9 j (by omega)) ho hdep
    have h9 : i = 10 → L 9 = true := fun e => by subst e; exact of_needs k10 ho hdep
    have h10 : i = 11 → L 10 = true := fun e => by subst e; exact of_needs k11 ho hdep
    have E : ∀ j dd, j < 12 → (tab21[j]?).map (·.1) = some (some dd) → L j = true → a.eval (.tmp dd) = x dd := fun j dd hj hjd hLj => by
      have hj' : ops[j]? = some ops[j] := Array.getElem?_eq_getElem (by omega)
      have := op_at hops j _ hj'
      rw [this] at hjd
      exact hF.eval_done j _ dd hj' (Option.some.inj hjd) hLj
    have hi : i = 0 ∨ i = 1 ∨ i = 2 ∨ i = 3 ∨ i = 4 ∨ i = 5 ∨ i = 6 ∨ i = 7 ∨ i = 8 ∨ i = 9 ∨ i = 10 ∨ i = 11 := by omega
    rcases hi with rfl | rfl | rfl | rfl | rfl | rfl | rfl | rfl | rfl | rfl | rfl | rfl
    all_goals
      simp only [tab21, List.getElem?_cons_zero, List.getElem?_cons_succ, Option.some.injEq, Prod.mk.injEq] at hat
      obtain ⟨hdst, hop⟩ := hat
      rw [← hdst] at hd
      obtain rfl := Option.some.inj hd
    · refine ⟨.slice p4 n4 c4, w', ?_, bl, bc, h.move 0 (by omega) hL _ rfl⟩
      rw [← h4, ← hF.eval_rest 4 u4]; unfold execOp; rw [← hop]; rfl
    · refine ⟨.slice p5 n5 c5, w', ?_, bl, bc, h.move 1 (by omega) hL _ rfl⟩
      rw [← h5, ← hF.eval_rest 5 u5]; unfold execOp; rw [← hop]; rfl
    · refine ⟨.slice p6 n6 c6, w', ?_, bl, bc, h.move 2 (by omega) hL _ rfl⟩
      rw [← h6, ← hF.eval_rest 6 u6]; unfold execOp; rw [← hop]; rfl
    · exact ⟨_, _, run3 a o w' hop.symm, _, bc, h.make 3 (by omega) (by omega) hL⟩
    · exact ⟨_, _, run4 a o w' hop.symm, _, bc, h.make 4 (by omega) (by omega) hL⟩
    · exact ⟨_, _, run5 a o w' hop.symm, _, bc, h.make 5 (by omega) (by omega) hL⟩
    · exact ⟨_, _, run6 a o w' hop.symm, _, bc, h.make 6 (by omega) (by omega) hL⟩
    · exact ⟨_, _, run7 a o w' hop.symm, _, bc, h.make 7 (by omega) (by omega) hL⟩
    · exact ⟨_, _, run8 a o w' hop.symm, _, bc, h.make 8 (by omega) (by omega) hL⟩
    · have H := hall rfl
      refine ⟨_, w', ?_, bl, bc, h.build hL H⟩
      have G := fun i i3 i8 => (h.rows.here i i3 i8 (H i i8)).1
      have g3 := G 3 (by omega) (by omega)
      have g4 := G 4 (by omega) (by omega)
      have g5 := G 5 (by omega) (by omega)
      have g6 := G 6 (by omega) (by omega)
      have g7 := G 7 (by omega) (by omega)
      have g8 := G 8 (by omega) (by omega)
      simp only [Nat.reduceAdd] at g3 g4 g5 g6 g7 g8
      have e0 := (E 0 96 (by omega) rfl (H 0 (by omega))).trans (h.m0 (H 0 (by omega)))
      have e1 := (E 1 97 (by omega) rfl (H 1 (by omega))).trans (h.m1 (H 1 (by omega)))
      have e2 := (E 2 98 (by omega) rfl (H 2 (by omega))).trans (h.m2 (H 2 (by omega)))
      have e3 := (E 3 99 (by omega) rfl (H 3 (by omega))).trans g3
      have e4 := (E 4 100 (by omega) rfl (H 4 (by omega))).trans g4
      have e5 := (E 5 101 (by omega) rfl (H 5 (by omega))).trans g5
      have e6 := (E 6 102 (by omega) rfl (H 6 (by omega))).trans g6
      have e7 := (E 7 103 (by omega) rfl (H 7 (by omega))).trans g7
      have e8 := (E 8 104 (by omega) rfl (H 8 (by omega))).trans g8
      rw [g3, g4, g5, g6, g7, g8]
      exact exec_build40 hop.symm _ _ e0 e1 e2 e3 e4 e5 e6 e7 e8 (build40v _ _ _ _ _ _ _ _ _ _ _ _ _ _ _ _ _ _ _ _ _ _ _ _ _ _ _ w')
    · have H := h9 rfl
      have hb := (h.b9 H).2
      refine ⟨_, _, ?_, bl, w'.heap.size, h.box hL H⟩
      have e9 := (E 9 105 (by omega) rfl H).trans hb
      unfold execOp; rw [← hop]
      show (do let v ← Instr.box 40 (a.eval (.tmp 105)); pure (Next.value v)).run Yba.prog w' = _
      rw [e9]
      exact box40v _ w'
    · have H := h10 rfl
      refine ⟨x 106, w', ?_, bl, bc, h.assign H⟩
      rw [← E 10 106 (by omega) rfl H]; unfold execOp; rw [← hop]; rfl

/-- what the region that makes the checker leaves -/
structure Made21 (w0 w : World) (v4 v5 v6 : Value) (bl : Nat → Nat) (bc : Nat) : Prop where
  only : Only [] w0 w
  rows : ∀ i, 3 ≤ i → i ≤ 8 → w0.heap.size ≤ bl i ∧ bl i < w.heap.size ∧ w.heap[bl i]? = some (.cells (ct i) (ety i) (0, 0))
  ne : ∀ i j, 3 ≤ i → i ≤ 8 → 3 ≤ j → j ≤ 8 → i ≠ j → bl i ≠ bl j
  lo : w0.heap.size ≤ bc
  hi : bc < w.heap.size
  cells : w.heap[bc]? = some (.cells (lit15 v4 v5 v6 (.slice (some ⟨bl 3, 0, none⟩) 9 9) (.slice (some ⟨bl 4, 0, none⟩) 9 9) (.slice (some ⟨bl 5, 0, none⟩) 9 9) (.slice (some ⟨bl 6, 0, none⟩) 3 3) (.slice (some ⟨bl 7, 0, none⟩) 3 3) (.slice (some ⟨bl 8, 0, none⟩) 3 3)) 40 (0, 0))
  nc : ∀ i, 3 ≤ i → i ≤ 8 → bl i ≠ bc

theorem R21.made {w0 w : World} {v4 v5 v6 : Value} {x : Nat → Value} {bl : Nat → Nat} {bc : Nat} (h : R21 w0.drew v4 v5 v6 (fun _ => true) x w bl bc) : x 13 = .pointer (some ⟨bc, 0, none⟩) ∧ Made21 w0 w v4 v5 v6 bl bc := by
  have b := h.b10 rfl
  have g := fun i i3 i8 => (h.rows.here i i3 i8 rfl).1
  have g3 := g 3 (by omega) (by omega)
  have g4 := g 4 (by omega) (by omega)
  have g5 := g 5 (by omega) (by omega)
  have g6 := g 6 (by omega) (by omega)
  have g7 := g 7 (by omega) (by omega)
  have g8 := g 8 (by omega) (by omega)
  simp only [Nat.reduceAdd] at g3 g4 g5 g6 g7 g8
  refine ⟨(h.b11 rfl).2.trans b.2.1, ((Only.refl _ _).drew).trans h.rows.only, fun i i3 i8 => (h.rows.here i i3 i8 rfl).2, fun i j i3 i8 j3 j8 => h.rows.ne i j i3 i8 j3 j8 rfl rfl, b.2.2.1, b.2.2.2.1, ?_, b.2.2.2.2.2⟩
  have := b.2.2.2.2.1
  rw [g3, g4, g5, g6, g7, g8] at this
  exact this

end Go.Proofs.Ybulkhwa

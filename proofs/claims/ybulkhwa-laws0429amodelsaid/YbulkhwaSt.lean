import Derived.Test.YbulkhwaVd
namespace Go.Proofs.Ybulkhwa
open Go.RowKit

/-- The checker's state, plainly. -/
structure St where
  hd : Nat → Int
  la : Nat → Int
  ho : Nat → Int
  ex : Nat → Bool
  rl : Nat → Int
  lg : List Nat
  wf : List Nat
  tp : List Nat

/-- The blocks of a checker over n steps; N0: a number above all of them. -/
structure Bk where
  C : Nat
  O : Nat
  T : Nat
  U : Nat
  I : Nat
  H : Nat
  L : Nat
  N : Nat
  E : Nat
  R : Nat
  n : Nat
  N0 : Nat

def Bk.all (K : Bk) : List Nat := [K.C, K.O, K.T, K.U, K.I, K.H, K.L, K.N, K.E, K.R]

structure Bk.Ok (K : Bk) : Prop where
  nd : K.all.Nodup
  lt : ∀ b ∈ K.all, b < K.N0
  n : K.n ≤ 1024

/-- The schedule: of each step its kind, transaction, item's name; transaction's and use's number. -/
structure Sch where
  kd : Nat → Int
  tx : Nat → Int
  nm : Nat → ByteArray
  tn : Nat → Int
  us : Nat → Int

/-- A verdict's two cells say the steps ps. -/
def VOk (K : Bk) (S : Sch) (w : World) (o a : Value) (ps : List Nat) : Prop :=
  (ps = [] ∧ o = .slice none 0 0 ∧ a = .slice none 0 0) ∨
  (ps ≠ [] ∧ ∃ bo ba, o = .slice (some ⟨bo, 0, none⟩) ps.length ps.length ∧ a = .slice (some ⟨ba, 0, none⟩) ps.length ps.length ∧ K.N0 ≤ bo ∧ K.N0 ≤ ba ∧ bo < w.heap.size ∧ ba < w.heap.size ∧
    Row w bo (3 * ps.length) (opCells (fun j => S.kd (ps.getD j 0)) (fun j => S.tx (ps.getD j 0)) (fun j => S.nm (ps.getD j 0))) ∧ Row w ba ps.length (fun j => .int .i64 (ps.getD j 0)))

/-- The cells of the checker itself. -/
def cG (K : Bk) (V : Nat → Value) : Nat → Value := fun j =>
  if j = 0 then .slice (some ⟨K.O, 0, none⟩) K.n K.n else if j = 1 then .slice (some ⟨K.T, 0, none⟩) K.n K.n else if j = 2 then .slice (some ⟨K.U, 0, none⟩) K.n K.n else if j = 3 then .slice (some ⟨K.I, 0, none⟩) 9 9 else
  if j = 10 then .slice (some ⟨K.H, 0, none⟩) 9 9 else if j = 11 then .slice (some ⟨K.L, 0, none⟩) 9 9 else if j = 12 then .slice (some ⟨K.N, 0, none⟩) 3 3 else if j = 13 then .slice (some ⟨K.E, 0, none⟩) 3 3 else if j = 14 then .slice (some ⟨K.R, 0, none⟩) 3 3 else V j

structure CkOk (K : Bk) (S : Sch) (V : Nat → Value) (w : World) (s : St) : Prop where
  size : K.N0 ≤ w.heap.size
  C : Row w K.C 15 (cG K V)
  O : Row w K.O (3 * K.n) (opCells S.kd S.tx S.nm)
  T : Row w K.T K.n (i32s S.tn)
  U : Row w K.U K.n (i32s S.us)
  I : Row w K.I 9 (i32s fun u => ((u % 3 : Nat) : Int))
  H : Row w K.H 9 (u8s s.hd)
  L : Row w K.L 9 (i32s s.la)
  N : Row w K.N 3 (i32s s.ho)
  E : Row w K.E 3 (bools s.ex)
  R : Row w K.R 3 (i32s s.rl)
  vl : VOk K S w (V 4) (V 5) s.lg
  vw : VOk K S w (V 6) (V 7) s.wf
  vt : VOk K S w (V 8) (V 9) s.tp

theorem VOk.only {K : Bk} {S : Sch} {w w' : World} {o a : Value} {ps : List Nat} {B : List Nat} (h : VOk K S w o a ps) (ho : Only B w w') (hB : ∀ b ∈ B, b < K.N0) : VOk K S w' o a ps := by
  rcases h with h | ⟨hne, bo, ba, e1, e2, l1, l2, s1, s2, r1, r2⟩
  · exact Or.inl h
  · have n1 : bo ∉ B := fun hm => by have := hB bo hm; omega
    have n2 : ba ∉ B := fun hm => by have := hB ba hm; omega
    exact Or.inr ⟨hne, bo, ba, e1, e2, l1, l2, Nat.lt_of_lt_of_le s1 ho.size, Nat.lt_of_lt_of_le s2 ho.size, r1.only ho s1 n1, r2.only ho s2 n2⟩

section
variable {K : Bk} {S : Sch} {V : Nat → Value} {w w' : World} {s : St}

theorem Bk.Ok.mem_lt (hK : K.Ok) (h : CkOk K S V w s) (b : Nat) (hb : b ∈ K.all) : b < w.heap.size := Nat.lt_of_lt_of_le (hK.lt b hb) h.size

/-- nothing of the checker's is written -/
theorem CkOk.only (h : CkOk K S V w s) (hK : K.Ok) (ho : Only [] w w') : CkOk K S V w' s := by
  have lt := hK.mem_lt h
  have f : ∀ {b n : Nat} {g : Nat → Value}, b ∈ K.all → Row w b n g → Row w' b n g := fun hb r => r.only ho (lt _ hb) (by simp)
  exact ⟨Nat.le_trans h.size ho.size, f (by simp [Bk.all]) h.C, f (by simp [Bk.all]) h.O, f (by simp [Bk.all]) h.T, f (by simp [Bk.all]) h.U, f (by simp [Bk.all]) h.I, f (by simp [Bk.all]) h.H, f (by simp [Bk.all]) h.L, f (by simp [Bk.all]) h.N,
    f (by simp [Bk.all]) h.E, f (by simp [Bk.all]) h.R, h.vl.only ho (by simp), h.vw.only ho (by simp), h.vt.only ho (by simp)⟩

/-- the pairs of blocks that differ -/
structure Bk.Ne (K : Bk) : Prop where
  cH : K.C ≠ K.H
  cL : K.C ≠ K.L
  cN : K.C ≠ K.N
  cE : K.C ≠ K.E
  cR : K.C ≠ K.R
  oC : K.O ≠ K.C
  oH : K.O ≠ K.H
  oL : K.O ≠ K.L
  oN : K.O ≠ K.N
  oE : K.O ≠ K.E
  oR : K.O ≠ K.R
  tC : K.T ≠ K.C
  tH : K.T ≠ K.H
  tL : K.T ≠ K.L
  tN : K.T ≠ K.N
  tE : K.T ≠ K.E
  tR : K.T ≠ K.R
  uC : K.U ≠ K.C
  uH : K.U ≠ K.H
  uL : K.U ≠ K.L
  uN : K.U ≠ K.N
  uE : K.U ≠ K.E
  uR : K.U ≠ K.R
  iC : K.I ≠ K.C
  iH : K.I ≠ K.H
  iL : K.I ≠ K.L
  iN : K.I ≠ K.N
  iE : K.I ≠ K.E
  iR : K.I ≠ K.R
  hL : K.H ≠ K.L
  hN : K.H ≠ K.N
  hE : K.H ≠ K.E
  hR : K.H ≠ K.R
  lN : K.L ≠ K.N
  lE : K.L ≠ K.E
  lR : K.L ≠ K.R
  nE : K.N ≠ K.E
  nR : K.N ≠ K.R
  eR : K.E ≠ K.R

theorem Bk.Ok.ne (hK : K.Ok) : K.Ne := by
  have h := hK.nd
  simp only [Bk.all, List.nodup_cons, List.mem_cons, List.not_mem_nil, not_or, or_false] at h
  constructor <;> (intro e; simp_all)

end

end Go.Proofs.Ybulkhwa

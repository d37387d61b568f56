import Derived.Test.YbulkhwaPool21
import Derived.Test.YbulkhwaStepW
import Derived.Test.YbulkhwaLock108
import Derived.Test.YbulkhwaLock115
import Derived.Test.YbulkhwaLock120
namespace Go.Proofs.Ybulkhwa
open Go.RowKit Go.Pool

/-- the checker's step, by its kind -/
def stepS (s : St) (kk u t i : Nat) : St :=
  if kk = 114 then readS s u i 1 else if kk = 119 then readS s u i 2 else if kk = 117 then unlS s u t i else if kk = 108 then lockS s u t i 2 else if kk = 115 then lockS s u t i 1 else if kk = 120 then lockS s u t i 2 else s

theorem kind_cases (x : Nat) : kindF x = 114 ∨ kindF x = 119 ∨ kindF x = 117 ∨ kindF x = 108 ∨ kindF x = 115 ∨ kindF x = 120 ∨ kindF x = 99 := by
  unfold kindF
  repeat' (first | split | omega)

theorem good_step {n : Nat} {s : St} (h : Good n s) (kk u t i : Nat) (hu : u < 9) (hi : i < n) : Good n (stepS s kk u t i) := by
  unfold stepS
  split
  · exact good_read h u i 1
  split
  · exact good_read h u i 2
  split
  · exact good_unlock h u t i hu hi
  split
  · exact good_lock h u t i hu 2 (Or.inr rfl)
  split
  · exact good_lock h u t i hu 1 (Or.inl rfl)
  split
  · exact good_lock h u t i hu 2 (Or.inr rfl)
  · exact h

theorem step_any {K : Bk} {KK TT II : Nat → Nat} {V : Nat → Value} {w : World} {s : St} (h : CkOk K (mkS KK TT II) V w s) (hK : K.Ok) (g : Good K.n s) (i : Nat) (hi : i < K.n) :
    Calls Yba.prog 6 #[.pointer (some ⟨K.C, 0, none⟩), .int .i32 i] w fun e w' => e = .returned (.tuple #[]) ∧ Left K (mkS KK TT II) (stepS s (kindF (KK i)) (TT i % 3 * 3 + II i % 3) (TT i % 3) i) w w' := by
  have hu : TT i % 3 * 3 + II i % 3 < 9 := by omega
  have ht : TT i % 3 < 3 := by omega
  have a : kindF (KK i) ≠ 99 → At K (mkS KK TT II) i (TT i % 3 * 3 + II i % 3) (TT i % 3) := fun e => ⟨hi, if_neg e, rfl, hu, ht⟩
  have hb := g.bd (TT i % 3 * 3 + II i % 3)
  have hm := g.hd _ hu
  have hr := (g.rl _ ht).2
  have kd : ∀ c : Nat, kindF (KK i) = c → (mkS KK TT II).kd i = (c : Int) := fun c e => by show ((kindF (KK i) : Nat) : Int) = c; rw [e]
  rcases kind_cases (KK i) with e | e | e | e | e | e | e
  · have := step_read h hK i _ _ (a (by omega)) (kd _ e)
    rw [e]; exact this
  · have := step_write h hK i _ _ (a (by omega)) (kd _ e)
    rw [e]; exact this
  · have := step_unlock h hK i _ _ (a (by omega)) (kd _ e) hb hm
    rw [e]; exact this
  · have := step_lock108 h hK i _ _ (a (by omega)) (kd _ e) hb hm hr
    rw [e]; exact this
  · have := step_lock115 h hK i _ _ (a (by omega)) (kd _ e) hb hm hr
    rw [e]; exact this
  · have := step_lock120 h hK i _ _ (a (by omega)) (kd _ e) hb hm hr
    rw [e]; exact this
  · have := step_commit h hK i hi (kd _ e)
    rw [e]; exact this

structure LockEq (s s' : St) (u t i : Nat) (want : Int) : Prop where
  lg : s'.lg = if refu s u want = true then [i] else s.lg
  wf : s'.wf = s.wf
  tp : s'.tp = if s.tp = [] ∧ 0 ≤ s.rl t then [(s.rl t).toNat, i] else s.tp
  la : s'.la = if s.hd u = 0 then upd s.la u i else s.la
  hd : s'.hd = upd s.hd u (if s.hd u < want then want else s.hd u)
  rl : s'.rl = s.rl

theorem lockA_eq (s : St) (u : Nat) (want : Int) : (lockA s u want).lg = s.lg ∧ (lockA s u want).wf = s.wf ∧ (lockA s u want).tp = s.tp ∧ (lockA s u want).la = s.la ∧ (lockA s u want).hd = s.hd ∧ (lockA s u want).rl = s.rl := by
  unfold lockA grS
  split
  · cases grF (s.hd u) want (s.ho (u % 3)) (s.ex (u % 3)) <;> exact ⟨rfl, rfl, rfl, rfl, rfl, rfl⟩
  · exact ⟨rfl, rfl, rfl, rfl, rfl, rfl⟩

theorem lock_eq (s : St) (u t i : Nat) (want : Int) : LockEq s (lockS s u t i want) u t i want := by
  obtain ⟨a1, a2, a3, a4, a5, a6⟩ := lockA_eq s u want
  have b : (lock1 s u i want).lg = (if refu s u want = true then [i] else s.lg) ∧ (lock1 s u i want).wf = s.wf ∧ (lock1 s u i want).tp = s.tp ∧ (lock1 s u i want).la = s.la ∧ (lock1 s u i want).hd = s.hd ∧ (lock1 s u i want).rl = s.rl := by
    unfold lock1
    split
    · exact ⟨rfl, a2, a3, a4, a5, a6⟩
    · exact ⟨a1, a2, a3, a4, a5, a6⟩
  obtain ⟨b1, b2, b3, b4, b5, b6⟩ := b
  have c : (lock2 (lock1 s u i want) t i).tp = (if s.tp = [] ∧ 0 ≤ s.rl t then [(s.rl t).toNat, i] else s.tp) ∧ (lock2 (lock1 s u i want) t i).lg = (lock1 s u i want).lg ∧ (lock2 (lock1 s u i want) t i).wf = s.wf ∧ (lock2 (lock1 s u i want) t i).la = s.la ∧ (lock2 (lock1 s u i want) t i).hd = s.hd ∧ (lock2 (lock1 s u i want) t i).rl = s.rl := by
    unfold lock2
    rw [b3, b6]
    split
    · exact ⟨rfl, rfl, b2, b4, b5, rfl⟩
    · exact ⟨b3, rfl, b2, b4, b5, b6⟩
  obtain ⟨c1, c2, c3, c4, c5, c6⟩ := c
  have d : (lock3 (lock2 (lock1 s u i want) t i) u i).la = (if s.hd u = 0 then upd s.la u i else s.la) ∧ (lock3 (lock2 (lock1 s u i want) t i) u i).lg = (lock1 s u i want).lg ∧ (lock3 (lock2 (lock1 s u i want) t i) u i).wf = s.wf ∧ (lock3 (lock2 (lock1 s u i want) t i) u i).tp = (if s.tp = [] ∧ 0 ≤ s.rl t then [(s.rl t).toNat, i] else s.tp) ∧ (lock3 (lock2 (lock1 s u i want) t i) u i).hd = s.hd ∧ (lock3 (lock2 (lock1 s u i want) t i) u i).rl = s.rl := by
    unfold lock3
    rw [c5]
    split
    · exact ⟨by show upd _ _ _ = _; rw [c4], c2, c3, c1, rfl, c6⟩
    · exact ⟨c4, c2, c3, c1, c5, c6⟩
  obtain ⟨d1, d2, d3, d4, d5, d6⟩ := d
  exact ⟨d2.trans b1, d3, d4, d1, by show upd _ _ _ = _; rw [d5], d6⟩

structure UnlEq (s s' : St) (u t i : Nat) : Prop where
  lg : s'.lg = if s.lg = [] ∧ s.hd u = 0 then [i] else s.lg
  wf : s'.wf = s.wf
  tp : s'.tp = s.tp
  la : s'.la = s.la
  hd : s'.hd = upd s.hd u 0
  rl : s'.rl = if s.rl t < 0 then upd s.rl t i else s.rl

theorem unl_eq (s : St) (u t i : Nat) : UnlEq s (unlS s u t i) u t i := by
  have a : (unlA s u).lg = s.lg ∧ (unlA s u).wf = s.wf ∧ (unlA s u).tp = s.tp ∧ (unlA s u).la = s.la ∧ (unlA s u).hd = s.hd ∧ (unlA s u).rl = s.rl := by
    unfold unlA relS
    split <;> (try split) <;> exact ⟨rfl, rfl, rfl, rfl, rfl, rfl⟩
  obtain ⟨a1, a2, a3, a4, a5, a6⟩ := a
  have b : (unl1 s u i).lg = (if s.lg = [] ∧ s.hd u = 0 then [i] else s.lg) ∧ (unl1 s u i).wf = s.wf ∧ (unl1 s u i).tp = s.tp ∧ (unl1 s u i).la = s.la ∧ (unl1 s u i).hd = s.hd ∧ (unl1 s u i).rl = s.rl := by
    unfold unl1
    split
    · exact ⟨rfl, a2, a3, a4, a5, a6⟩
    · exact ⟨a1, a2, a3, a4, a5, a6⟩
  obtain ⟨b1, b2, b3, b4, b5, b6⟩ := b
  have c : (unl2 (unl1 s u i) t i).rl = (if s.rl t < 0 then upd s.rl t i else s.rl) ∧ (unl2 (unl1 s u i) t i).lg = (unl1 s u i).lg ∧ (unl2 (unl1 s u i) t i).wf = s.wf ∧ (unl2 (unl1 s u i) t i).tp = s.tp ∧ (unl2 (unl1 s u i) t i).la = s.la ∧ (unl2 (unl1 s u i) t i).hd = s.hd := by
    unfold unl2
    rw [b6]
    split
    · exact ⟨rfl, rfl, b2, b3, b4, b5⟩
    · exact ⟨b6, rfl, b2, b3, b4, b5⟩
  obtain ⟨c1, c2, c3, c4, c5, c6⟩ := c
  exact ⟨c2.trans b1, c3, c4, c5, by show upd _ _ _ = _; rw [c6], c1⟩

/-- the law's numbers for a verdict of one place, of two -/
def One (n : Nat) (ps : List Nat) (A : Int) : Prop := (ps = [] ∧ A = -1) ∨ ∃ p, ps = [p] ∧ A = (p : Int) ∧ p < n
def Two (n : Nat) (ps : List Nat) (A B : Int) : Prop := (ps = [] ∧ A = -1 ∧ B = -1) ∨ ∃ p q, ps = [p, q] ∧ A = (p : Int) ∧ B = (q : Int) ∧ p < n ∧ q < n

theorem One.neg {n : Nat} {ps : List Nat} {A : Int} (h : One n ps A) : A < 0 ↔ ps = [] := by
  rcases h with ⟨e, rfl⟩ | ⟨p, rfl, rfl, _⟩
  · simp [e]
  · simp
theorem Two.neg {n : Nat} {ps : List Nat} {A B : Int} (h : Two n ps A B) : A < 0 ↔ ps = [] := by
  rcases h with ⟨e, rfl, _⟩ | ⟨p, q, rfl, rfl, _⟩
  · simp [e]
  · simp

/-- what does not change: the blocks, of the checker and of the law's own tables -/
structure Env (K : Bk) (M1 M2 M3 : Nat) (w0 : World) : Prop where
  ok : K.Ok
  lo : ∀ b ∈ K.wr, w0.heap.size ≤ b
  l1 : w0.heap.size ≤ M1
  l2 : w0.heap.size ≤ M2
  l3 : w0.heap.size ≤ M3
  h1 : M1 < K.N0
  h2 : M2 < K.N0
  h3 : M3 < K.N0
  n12 : M1 ≠ M2
  n13 : M1 ≠ M3
  n23 : M2 ≠ M3
  o1 : M1 ∉ K.all
  o2 : M2 ∉ K.all
  o3 : M3 ∉ K.all

/-- the law's tables say the state s -/
structure Tab (M1 M2 M3 : Nat) (w0 : World) (s : St) (wr : World) : Prop where
  m1 : Row wr M1 9 (u8s s.hd)
  m2 : Row wr M2 9 (i32s s.la)
  m3 : Row wr M3 3 (i32s s.rl)
  only : Only [] w0 wr

structure Lp2 (K : Bk) (S : Sch) (M1 M2 M3 : Nat) (w0 : World) (A B T1 T2 : Int) (s : St) (V : Nat → Value) (wr : World) : Prop where
  ck : CkOk K S V wr s
  good : Good K.n s
  tab : Tab M1 M2 M3 w0 s wr
  lg : One K.n s.lg A
  wf : One K.n s.wf B
  tp : Two K.n s.tp T1 T2

theorem Only.newS {S : List Nat} {a b c : World} (h : Only [] a b) (k : Only S b c) (hS : ∀ x ∈ S, a.heap.size ≤ x) : Only [] a c :=
  ⟨k.os.trans h.os, k.tape.trans h.tape, k.output.trans h.output, Nat.le_trans h.size k.size, fun i hi _ => (k.block i (Nat.lt_of_lt_of_le hi h.size) (fun hm => by have := hS i hm; omega)).trans (h.block i hi (by simp))⟩

theorem Bk.wr_all (K : Bk) (b : Nat) (h : b ∈ K.wr) : b ∈ K.all := by
  simp only [Bk.wr, Bk.all, List.mem_cons, List.not_mem_nil, or_false] at h ⊢
  rcases h with h | h | h | h | h | h <;> simp [h]

/-- the tables behind the checker's step -/
theorem Tab.left {K : Bk} {S : Sch} {M1 M2 M3 : Nat} {w0 wr w' : World} {s s' : St} (h : Tab M1 M2 M3 w0 s wr) (e : Env K M1 M2 M3 w0) (hs : K.N0 ≤ wr.heap.size) (hl : Left K S s' wr w') : Tab M1 M2 M3 w0 s w' :=
  ⟨h.m1.only hl.2 (Nat.lt_of_lt_of_le e.h1 hs) (fun hm => e.o1 (K.wr_all _ hm)), h.m2.only hl.2 (Nat.lt_of_lt_of_le e.h2 hs) (fun hm => e.o2 (K.wr_all _ hm)), h.m3.only hl.2 (Nat.lt_of_lt_of_le e.h3 hs) (fun hm => e.o3 (K.wr_all _ hm)), h.only.newS hl.2 e.lo⟩

/-- a store into a block that is none of the checker's, below its bound -/
theorem CkOk.far {K : Bk} {S : Sch} {V : Nat → Value} {w : World} {s : St} (h : CkOk K S V w s) {p : Addr} (hp : p.block ∉ K.all) (hb : p.block < K.N0) (v : Value) : CkOk K S V (w.setCell p v) s := by
  have f : ∀ {b n : Nat} {g : Nat → Value}, b ∈ K.all → Row w b n g → Row (w.setCell p v) b n g := fun hb r => r.other (fun e => hp (e ▸ hb)) v
  have ho : Only [p.block] w (w.setCell p v) := (Only.refl _ _).setCell (by simp) v
  exact ⟨by rw [World.size_setCell]; exact h.size, f (by simp [Bk.all]) h.C, f (by simp [Bk.all]) h.O, f (by simp [Bk.all]) h.T, f (by simp [Bk.all]) h.U, f (by simp [Bk.all]) h.I, f (by simp [Bk.all]) h.H, f (by simp [Bk.all]) h.L, f (by simp [Bk.all]) h.N,
    f (by simp [Bk.all]) h.E, f (by simp [Bk.all]) h.R, h.vl.only ho (by simpa using hb), h.vw.only ho (by simpa using hb), h.vt.only ho (by simpa using hb)⟩

def s00 : St := { hd := fun _ => 0, la := fun _ => 0, ho := fun _ => 0, ex := fun _ => false, rl := fun _ => -1, lg := [], wf := [], tp := [] }
def C43 : Array Value := #[.int .u8 0, .int .u8 0, .int .u8 0, .int .u8 0, .int .u8 0, .int .u8 0, .int .u8 0, .int .u8 0, .int .u8 0]
def C45 : Array Value := #[.int .i32 0, .int .i32 0, .int .i32 0, .int .i32 0, .int .i32 0, .int .i32 0, .int .i32 0, .int .i32 0, .int .i32 0]
def C44 : Array Value := #[.int .i32 (-1), .int .i32 (-1), .int .i32 (-1)]

theorem lt9 {P : Nat → Prop} (h0 : P 0) (h1 : P 1) (h2 : P 2) (h3 : P 3) (h4 : P 4) (h5 : P 5) (h6 : P 6) (h7 : P 7) (h8 : P 8) : ∀ j, j < 9 → P j := by
  intro j hj
  have : j = 0 ∨ j = 1 ∨ j = 2 ∨ j = 3 ∨ j = 4 ∨ j = 5 ∨ j = 6 ∨ j = 7 ∨ j = 8 := by omega
  rcases this with rfl | rfl | rfl | rfl | rfl | rfl | rfl | rfl | rfl <;> assumption
theorem lt3 {P : Nat → Prop} (h0 : P 0) (h1 : P 1) (h2 : P 2) : ∀ j, j < 3 → P j := by
  intro j hj
  have : j = 0 ∨ j = 1 ∨ j = 2 := by omega
  rcases this with rfl | rfl | rfl <;> assumption

theorem good00 (n : Nat) : Good n s00 :=
  ⟨fun _ _ => Or.inl rfl, fun _ _ => ⟨by show (-1 : Int) ≤ -1; omega, by show (-1 : Int) < n; omega⟩, fun _ _ _ => ⟨rfl, rfl, by simp [solo, s00]⟩⟩

/-- the checker and the tables as they are made -/
theorem Lp2.start {n : Nat} {KK TT II : Nat → Nat} {w wL wc : World} {bl : Nat → Nat} {bc : Nat} (hn : n ≤ 1024) (hl : Lp1 n n w.heap.size (mkS KK TT II) w wL)
    (hm : Made21 wL wc (.slice (some ⟨w.heap.size, 0, none⟩) n n) (.slice (some ⟨w.heap.size + 1, 0, none⟩) n n) (.slice (some ⟨w.heap.size + 1 + 1, 0, none⟩) n n) bl bc) :
    ∃ K : Bk, K.C = bc ∧ K.O = w.heap.size ∧ K.T = w.heap.size + 1 ∧ K.n = n ∧ Env K wc.heap.size (wc.heap.size + 1) (wc.heap.size + 1 + 1) w ∧
      ∃ V, Lp2 K (mkS KK TT II) wc.heap.size (wc.heap.size + 1) (wc.heap.size + 1 + 1) w (-1) (-1) (-1) (-1) s00 V (((wc.alloc (.cells C43 43)).alloc (.cells C45 45)).alloc (.cells C44 44)) := by
  have hs := hl.size
  have hs2 := hm.only.size
  have a3 := hm.rows 3 (by omega) (by omega)
  have a4 := hm.rows 4 (by omega) (by omega)
  have a5 := hm.rows 5 (by omega) (by omega)
  have a6 := hm.rows 6 (by omega) (by omega)
  have a7 := hm.rows 7 (by omega) (by omega)
  have a8 := hm.rows 8 (by omega) (by omega)
  have lo := hm.lo
  have hi := hm.hi
  have n34 := hm.ne 3 4 (by omega) (by omega) (by omega) (by omega) (by omega)
  have n35 := hm.ne 3 5 (by omega) (by omega) (by omega) (by omega) (by omega)
  have n36 := hm.ne 3 6 (by omega) (by omega) (by omega) (by omega) (by omega)
  have n37 := hm.ne 3 7 (by omega) (by omega) (by omega) (by omega) (by omega)
  have n38 := hm.ne 3 8 (by omega) (by omega) (by omega) (by omega) (by omega)
  have n45 := hm.ne 4 5 (by omega) (by omega) (by omega) (by omega) (by omega)
  have n46 := hm.ne 4 6 (by omega) (by omega) (by omega) (by omega) (by omega)
  have n47 := hm.ne 4 7 (by omega) (by omega) (by omega) (by omega) (by omega)
  have n48 := hm.ne 4 8 (by omega) (by omega) (by omega) (by omega) (by omega)
  have n56 := hm.ne 5 6 (by omega) (by omega) (by omega) (by omega) (by omega)
  have n57 := hm.ne 5 7 (by omega) (by omega) (by omega) (by omega) (by omega)
  have n58 := hm.ne 5 8 (by omega) (by omega) (by omega) (by omega) (by omega)
  have n67 := hm.ne 6 7 (by omega) (by omega) (by omega) (by omega) (by omega)
  have n68 := hm.ne 6 8 (by omega) (by omega) (by omega) (by omega) (by omega)
  have n78 := hm.ne 7 8 (by omega) (by omega) (by omega) (by omega) (by omega)
  have c3 := hm.nc 3 (by omega) (by omega)
  have c4 := hm.nc 4 (by omega) (by omega)
  have c5 := hm.nc 5 (by omega) (by omega)
  have c6 := hm.nc 6 (by omega) (by omega)
  have c7 := hm.nc 7 (by omega) (by omega)
  have c8 := hm.nc 8 (by omega) (by omega)
  have R3 : Row wc (bl 3) 9 (i32s fun u => ((u % 3 : Nat) : Int)) := Row.ofHeap a3.2.2 (lt9 rfl rfl rfl rfl rfl rfl rfl rfl rfl)
  have R4 : Row wc (bl 4) 9 (u8s s00.hd) := Row.ofHeap a4.2.2 (lt9 rfl rfl rfl rfl rfl rfl rfl rfl rfl)
  have R5 : Row wc (bl 5) 9 (i32s s00.la) := Row.ofHeap a5.2.2 (lt9 rfl rfl rfl rfl rfl rfl rfl rfl rfl)
  have R6 : Row wc (bl 6) 3 (i32s s00.ho) := Row.ofHeap a6.2.2 (lt3 rfl rfl rfl)
  have R7 : Row wc (bl 7) 3 (bools s00.ex) := Row.ofHeap a7.2.2 (lt3 rfl rfl rfl)
  have R8 : Row wc (bl 8) 3 (i32s s00.rl) := Row.ofHeap a8.2.2 (lt3 rfl rfl rfl)
  have RO : Row wc w.heap.size (3 * n) (opCells (mkS KK TT II).kd (mkS KK TT II).tx (mkS KK TT II).nm) := hl.o.full.only hm.only (by omega) (by simp)
  have RT : Row wc (w.heap.size + 1) n (i32s (mkS KK TT II).tn) := hl.t.full.only hm.only (by omega) (by simp)
  have RU : Row wc (w.heap.size + 1 + 1) n (i32s (mkS KK TT II).us) := hl.u.full.only hm.only (by omega) (by simp)
  let K : Bk := { C := bc, O := w.heap.size, T := w.heap.size + 1, U := w.heap.size + 1 + 1, I := bl 3, H := bl 4, L := bl 5, N := bl 6, E := bl 7, R := bl 8, n := n, N0 := wc.heap.size + 3 }
  have RC : Row wc bc 15 (cG K fun _ => .slice none 0 0) := Row.ofHeap hm.cells (fun j hj => by
    have : j = 0 ∨ j = 1 ∨ j = 2 ∨ j = 3 ∨ j = 4 ∨ j = 5 ∨ j = 6 ∨ j = 7 ∨ j = 8 ∨ j = 9 ∨ j = 10 ∨ j = 11 ∨ j = 12 ∨ j = 13 ∨ j = 14 := by omega
    rcases this with rfl | rfl | rfl | rfl | rfl | rfl | rfl | rfl | rfl | rfl | rfl | rfl | rfl | rfl | rfl <;> rfl)
  have f : ∀ {b m : Nat} {g : Nat → Value}, b < wc.heap.size → Row wc b m g → Row (((wc.alloc (.cells C43 43)).alloc (.cells C45 45)).alloc (.cells C44 44)) b m g := fun hb r => ((r.alloc hb _).alloc (by simp; omega) _).alloc (by simp; omega) _
  have hall : ∀ b ∈ K.all, b < wc.heap.size := by
    intro b hb
    simp only [Bk.all, List.mem_cons, List.not_mem_nil, or_false] at hb
    rcases hb with rfl | rfl | rfl | rfl | rfl | rfl | rfl | rfl | rfl | rfl
    · exact hi
    · show w.heap.size < _; omega
    · show w.heap.size + 1 < _; omega
    · show w.heap.size + 1 + 1 < _; omega
    · exact a3.2.1
    · exact a4.2.1
    · exact a5.2.1
    · exact a6.2.1
    · exact a7.2.1
    · exact a8.2.1
  have hok : K.Ok := by
    refine ⟨?_, fun b hb => by have := hall b hb; show b < wc.heap.size + 3; omega, hn⟩
    simp only [Bk.all, List.nodup_cons, List.mem_cons, List.not_mem_nil, not_or, or_false, not_false_eq_true, List.nodup_nil, and_true]
    refine ⟨⟨?_, ?_, ?_, ?_, ?_, ?_, ?_, ?_, ?_⟩, ⟨?_, ?_, ?_, ?_, ?_, ?_, ?_, ?_⟩, ⟨?_, ?_, ?_, ?_, ?_, ?_, ?_⟩, ⟨?_, ?_, ?_, ?_, ?_, ?_⟩, ⟨?_, ?_, ?_, ?_, ?_⟩, ⟨?_, ?_, ?_, ?_⟩, ⟨?_, ?_, ?_⟩, ⟨?_, ?_⟩, ?_⟩
    all_goals
      simp only [K]
      omega
  refine ⟨K, rfl, rfl, rfl, rfl, ⟨hok, ?_, by omega, by omega, by omega, by show _ < wc.heap.size + 3; omega, by show _ < wc.heap.size + 3; omega, by show _ < wc.heap.size + 3; omega, by omega, by omega, by omega, fun h => by have := hall _ h; omega, fun h => by have := hall _ h; omega, fun h => by have := hall _ h; omega⟩, fun _ => .slice none 0 0, ?_⟩
  · intro b hb
    simp only [Bk.wr, List.mem_cons, List.not_mem_nil, or_false] at hb
    have o := hl.only.size
    rcases hb with rfl | rfl | rfl | rfl | rfl | rfl <;> first | omega | (simp only [K]; omega)
  · refine ⟨⟨by simp [K], f hi RC, f (by show w.heap.size < _; omega) RO, f (by show w.heap.size + 1 < _; omega) RT, f (by show w.heap.size + 1 + 1 < _; omega) RU, f a3.2.1 R3, f a4.2.1 R4, f a5.2.1 R5, f a6.2.1 R6, f a7.2.1 R7, f a8.2.1 R8, Or.inl ⟨rfl, rfl, rfl⟩, Or.inl ⟨rfl, rfl, rfl⟩, Or.inl ⟨rfl, rfl, rfl⟩⟩, good00 _, ⟨?_, ?_, ?_, (((hl.only.trans hm.only).alloc _).alloc _).alloc _⟩, Or.inl ⟨rfl, rfl⟩, Or.inl ⟨rfl, rfl⟩, Or.inl ⟨rfl, rfl, rfl⟩⟩
    · exact ((Row.new wc C43 43 9 (u8s s00.hd) (lt9 rfl rfl rfl rfl rfl rfl rfl rfl rfl)).alloc (by simp) _).alloc (by simp; omega) _
    · have r := (Row.new (wc.alloc (.cells C43 43)) C45 45 9 (i32s s00.la) (lt9 rfl rfl rfl rfl rfl rfl rfl rfl rfl)).alloc (by simp) (.cells C44 44)
      simp only [World.size_alloc] at r
      exact r
    · have r := Row.new ((wc.alloc (.cells C43 43)).alloc (.cells C45 45)) C44 44 3 (i32s s00.rl) (lt3 rfl rfl rfl)
      simp only [World.size_alloc] at r
      exact r

end Go.Proofs.Ybulkhwa

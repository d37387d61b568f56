import Derived.Test.YbulkhwaCk
namespace Go.Proofs.Ybulkhwa
open Go.RowKit

/-- What the step at place i reads first. -/
structure At (K : Bk) (S : Sch) (i u t : Nat) : Prop where
  hi : i < K.n
  us : S.us i = (u : Int)
  tn : S.tn i = (t : Int)
  hu : u < 9
  ht : t < 3

/-- the state behind a read or a write that needs 'need' -/
def readS (s : St) (u i : Nat) (need : Int) : St := if s.wf = [] ∧ s.hd u < need then { s with wf := [i] } else s

/-- a verdict of one step, out of 'verdict''s contract -/
theorem VOk.one {K : Bk} {S : Sch} {w w' : World} {i bo ba : Nat} (h0 : K.N0 ≤ w.heap.size) (l1 : w.heap.size ≤ bo) (l2 : w.heap.size ≤ ba) (s1 : bo < w'.heap.size) (s2 : ba < w'.heap.size)
    (r1 : Row w' bo (3 * 1) (opCells (fun _ => S.kd i) (fun _ => S.tx i) (fun _ => S.nm i))) (r2 : Row w' ba 1 (fun _ => .int .i64 i)) :
    VOk K S w' (.slice (some ⟨bo, 0, none⟩) 1 1) (.slice (some ⟨ba, 0, none⟩) 1 1) [i] := by
  refine Or.inr ⟨by simp, bo, ba, rfl, rfl, by omega, by omega, s1, s2, ?_, ?_⟩
  · refine r1.congr fun j hj => ?_
    have : j / 3 = 0 := by omega
    simp [opCells, this]
  · refine r2.congr fun j hj => ?_
    obtain rfl : j = 0 := by simpa using hj
    rfl

/-- what every step reads first, in the walk's forms -/
structure SP (K : Bk) (S : Sch) (V : Nat → Value) (s : St) (w : World) (i u t : Nat) (kd : Int) : Prop where
  c0 : w.cell? ⟨K.C, 0, none⟩ = some (.slice (some ⟨K.O, 0, none⟩) K.n K.n)
  c1 : w.cell? ⟨K.C, 1, none⟩ = some (.slice (some ⟨K.T, 0, none⟩) K.n K.n)
  c2 : w.cell? ⟨K.C, 2, none⟩ = some (.slice (some ⟨K.U, 0, none⟩) K.n K.n)
  c4 : w.cell? ⟨K.C, 4, none⟩ = some (V 4)
  c5 : w.cell? ⟨K.C, 5, none⟩ = some (V 5)
  c6 : w.cell? ⟨K.C, 6, none⟩ = some (V 6)
  c7 : w.cell? ⟨K.C, 7, none⟩ = some (V 7)
  c8 : w.cell? ⟨K.C, 8, none⟩ = some (V 8)
  c9 : w.cell? ⟨K.C, 9, none⟩ = some (V 9)
  c10 : w.cell? ⟨K.C, 10, none⟩ = some (.slice (some ⟨K.H, 0, none⟩) 9 9)
  c11 : w.cell? ⟨K.C, 11, none⟩ = some (.slice (some ⟨K.L, 0, none⟩) 9 9)
  c14 : w.cell? ⟨K.C, 14, none⟩ = some (.slice (some ⟨K.R, 0, none⟩) 3 3)
  o0 : w.cell? ⟨K.O, i * 3, none⟩ = some (.int .u8 kd)
  o1 : w.cell? ⟨K.O, i * 3 + 1, none⟩ = some (.int .i64 (S.tx i))
  o2 : w.cell? ⟨K.O, i * 3 + 2, none⟩ = some (.string (S.nm i))
  cu : w.cell? ⟨K.U, i, none⟩ = some (.int .i32 u)
  ct : w.cell? ⟨K.T, i, none⟩ = some (.int .i32 t)
  ch : w.cell? ⟨K.H, u, none⟩ = some (.int .u8 (s.hd u))
  cl : w.cell? ⟨K.L, u, none⟩ = some (.int .i32 (s.la u))
  cr : w.cell? ⟨K.R, t, none⟩ = some (.int .i32 (s.rl t))
  fc : ∀ j, w.frozen? ⟨K.C, j, none⟩ = false
  fh : ∀ j, w.frozen? ⟨K.H, j, none⟩ = false
  fl : ∀ j, w.frozen? ⟨K.L, j, none⟩ = false
  fr : ∀ j, w.frozen? ⟨K.R, j, none⟩ = false
  lC : K.C < w.heap.size
  lO : K.O < w.heap.size
  lT : K.T < w.heap.size
  lU : K.U < w.heap.size
  lH : K.H < w.heap.size
  lL : K.L < w.heap.size
  lR : K.R < w.heap.size

theorem CkOk.sp {K : Bk} {S : Sch} {V : Nat → Value} {w : World} {s : St} (h : CkOk K S V w s) (hK : K.Ok) {i u t : Nat} (a : At K S i u t) {kd : Int} (hkd : S.kd i = kd) : SP K S V s w i u t kd := by
  have hi := a.hi
  exact ⟨h.C.cell 0 (by omega), h.C.cell 1 (by omega), h.C.cell 2 (by omega), h.C.cell 4 (by omega), h.C.cell 5 (by omega), h.C.cell 6 (by omega), h.C.cell 7 (by omega), h.C.cell 8 (by omega), h.C.cell 9 (by omega), h.C.cell 10 (by omega), h.C.cell 11 (by omega), h.C.cell 14 (by omega),
    by rw [h.O.cell _ (by omega), opCells, if_pos (by omega), show i * 3 / 3 = i by omega, hkd],
    by rw [h.O.cell _ (by omega), opCells, if_neg (by omega), if_pos (by omega), show (i * 3 + 1) / 3 = i by omega],
    by rw [h.O.cell _ (by omega), opCells, if_neg (by omega), if_neg (by omega), show (i * 3 + 2) / 3 = i by omega],
    by rw [h.U.cell i hi]; show some (Value.int .i32 (S.us i)) = _; rw [a.us],
    by rw [h.T.cell i hi]; show some (Value.int .i32 (S.tn i)) = _; rw [a.tn],
    h.H.cell u a.hu, h.L.cell u a.hu, h.R.cell t a.ht, h.C.frozen, h.H.frozen, h.L.frozen, h.R.frozen,
    hK.mem_lt h _ (by simp [Bk.all]), hK.mem_lt h _ (by simp [Bk.all]), hK.mem_lt h _ (by simp [Bk.all]), hK.mem_lt h _ (by simp [Bk.all]), hK.mem_lt h _ (by simp [Bk.all]), hK.mem_lt h _ (by simp [Bk.all]), hK.mem_lt h _ (by simp [Bk.all])⟩

/-- the blocks that a step may write -/
def Bk.wr (K : Bk) : List Nat := [K.C, K.H, K.L, K.N, K.E, K.R]

/-- what a step leaves -/
def Left (K : Bk) (S : Sch) (s' : St) (w w' : World) : Prop := (∃ V, CkOk K S V w' s') ∧ Only K.wr w w'

theorem Left.same {K : Bk} {S : Sch} {V : Nat → Value} {w w' : World} {s : St} (h : CkOk K S V w s) (hK : K.Ok) (ho : Only [] w w') : Left K S s w w' :=
  ⟨⟨V, h.only hK ho⟩, ho.mono (by simp)⟩

/-- the call of 'verdict' with one place, anywhere behind the step's beginning -/
theorem verdict_one {K : Bk} {S : Sch} {V : Nat → Value} {w : World} {s : St} (h : CkOk K S V w s) (hK : K.Ok) (i bA : Nat) (hi : i < K.n) (hA : w.cell? ⟨bA, 0, none⟩ = some (.int .i32 i)) :
    Calls Yba.prog 15 #[.pointer (some ⟨K.C, 0, none⟩), .slice (some ⟨bA, 0, none⟩) 1 1] w fun e w' => ∃ bo ba, e = .returned (.agg #[.slice (some ⟨bo, 0, none⟩) 1 1, .slice (some ⟨ba, 0, none⟩) 1 1]) ∧
      VOk K S w' (.slice (some ⟨bo, 0, none⟩) 1 1) (.slice (some ⟨ba, 0, none⟩) 1 1) [i] ∧ Only [] w w' := by
  refine (verdict_any K.C K.O bA K.n 1 (fun _ => i) S.kd S.tx S.nm w hK.n (by omega) (fun _ _ => hi) (h.C.cell 0 (by omega)) h.O ?_).mono ?_
  · intro j hj
    obtain rfl : j = 0 := by omega
    exact hA
  rintro e w' ⟨bo, ba, rfl, l1, l2, _, s1, s2, r1, r2, ho⟩
  exact ⟨bo, ba, rfl, VOk.one h.size l1 l2 s1 s2 r1 r2, ho⟩

theorem VOk.some_of {K : Bk} {S : Sch} {w : World} {o a : Value} {ps : List Nat} (h : VOk K S w o a ps) (hne : ps ≠ []) : ∃ x l c y, o = .slice (some x) l c ∧ a = y := by
  rcases h with ⟨e, _⟩ | ⟨_, bo, ba, e1, e2, _⟩
  · exact absurd e hne
  · exact ⟨_, _, _, _, e1, rfl⟩
theorem VOk.nil_of {K : Bk} {S : Sch} {w : World} {o a : Value} (h : VOk K S w o a []) : o = .slice none 0 0 ∧ a = .slice none 0 0 := by
  rcases h with ⟨_, e⟩ | ⟨h, _⟩
  · exact e
  · exact absurd rfl h

set_option maxRecDepth 100000 in
set_option maxHeartbeats 1000000 in
theorem step_read {K : Bk} {S : Sch} {V : Nat → Value} {w : World} {s : St} (h : CkOk K S V w s) (hK : K.Ok) (i u t : Nat) (a : At K S i u t) (hkd : S.kd i = 114) :
    Calls Yba.prog 6 #[.pointer (some ⟨K.C, 0, none⟩), .int .i32 i] w fun e w' => e = .returned (.tuple #[]) ∧ Left K S (readS s u i 1) w w' := by
  have hi := a.hi
  have hu := a.hu
  have hn := hK.n
  have hi1 : (i : Int) < (K.n : Int) := by omega
  have HH : Hid (CkOk K S V w s) := h
  have HK : Hid K.Ok := hK
  obtain ⟨c0, c1, c2, c4, c5, c6, c7, c8, c9, c10, c11, c14, o0, o1, o2, cu, ct, ch, cl, cr, fc, fh, fl, fr, lC, lO, lT, lU, lH, lL, lR⟩ := h.sp hK a hkd
  clear h hK a hkd c4 c5 c8 c9 c11 c14 cl cr fl fr lL lR fh
  by_cases hwf : s.wf = []
  · obtain ⟨e6, e7⟩ := VOk.nil_of (hwf ▸ HH.out.vw)
    rw [e6] at c6
    rw [e7] at c7
    by_cases hlt : s.hd u < 1
    · have hst : Hid (readS s u i 1 = { s with wf := [i] }) := by show _ = _; rw [readS, if_pos ⟨hwf, hlt⟩]
      clear hwf e6 e7
      go_enter Yba.func6, Yba.ntmps6
      go_wp2_with fail
      go_quiet (fail)
      go_wp2_with fail
      refine (holds_any _ _ _ _ _).mono ?_
      rintro e w1 ⟨rfl, rfl⟩
      go_wp2_with fail
      refine (verdict_one (HH.out.only HK.out ?ho1) HK.out i _ hi ?hA).mono ?_
      case ho1 => repeat (first | exact Only.refl _ _ | apply Only.drew | apply Only.drewN | apply Only.alloc)
      case hA => rw [World.cell?_alloc_at _ _ _ _ (by simp)]; rfl
      rintro e w2 ⟨bo, ba, rfl, hv, ho2⟩
      have ho : Only [] w w2 := (by repeat (first | exact Only.refl _ _ | apply Only.drew | apply Only.drewN | apply Only.alloc) : Only [] w _).trans ho2
      have hC2 : CkOk K S V w2 s := HH.out.only HK.out ho
      have c6' : w2.cell? ⟨K.C, 6, none⟩ = some (V 6) := hC2.C.cell 6 (by omega)
      have c7' : w2.cell? ⟨K.C, 7, none⟩ = some (V 7) := hC2.C.cell 7 (by omega)
      have f6 := hC2.C.frozen 6
      have f7 := hC2.C.frozen 7
      have HV : Hid (VOk K S w2 (.slice (some ⟨bo, 0, none⟩) 1 1) (.slice (some ⟨ba, 0, none⟩) 1 1) [i]) := hv
      have HO : Hid (Only [] w w2) := ho
      have HC : Hid (CkOk K S V w2 s) := hC2
      clear hv ho hC2 ho2 c0 c1 c2 c6 c7 c10 o0 o1 o2 cu ct ch fc
      go_wp2
      go_end0
      refine ⟨rfl, ?_⟩
      rw [hst.out]
      exact ⟨⟨_, HC.out.setV HK.out 6 (by omega) _ _ [i] HV.out⟩, ((HO.out.mono (by simp)).setCell (p := ⟨K.C, 6, none⟩) (by simp [Bk.wr]) _).setCell (p := ⟨K.C, 7, none⟩) (by simp [Bk.wr]) _⟩
    · have hst : Hid (readS s u i 1 = s) := by show _ = _; rw [readS, if_neg (fun hc => hlt hc.2)]
      clear hwf e6 e7
      go_enter Yba.func6, Yba.ntmps6
      go_wp2_with fail
      go_quiet (fail)
      go_wp2_with fail
      refine (holds_any _ _ _ _ _).mono ?_
      rintro e w1 ⟨rfl, rfl⟩
      go_wp2
      go_end0
      refine ⟨rfl, ?_⟩
      rw [hst.out]
      exact Left.same HH.out HK.out (by repeat (first | exact Only.refl _ _ | apply Only.drew | apply Only.drewN | apply Only.alloc))
  · obtain ⟨x, l, c, y, e6, e7⟩ := VOk.some_of HH.out.vw hwf
    rw [e6] at c6
    have hst : Hid (readS s u i 1 = s) := by show _ = _; rw [readS, if_neg (fun hc => hwf hc.1)]
    clear hwf e6 e7
    go_enter Yba.func6, Yba.ntmps6
    go_wp2_with fail
    go_quiet (fail)
    go_wp2_with fail
    refine (holds_any _ _ _ _ _).mono ?_
    rintro e w1 ⟨rfl, rfl⟩
    go_wp2
    go_end0
    refine ⟨rfl, ?_⟩
    rw [hst.out]
    exact Left.same HH.out HK.out (by repeat (first | exact Only.refl _ _ | apply Only.drew | apply Only.drewN | apply Only.alloc))

end Go.Proofs.Ybulkhwa

import Derived.Test.YbulkhwaSt
namespace Go.Proofs.Ybulkhwa
open Go.RowKit

section
variable {K : Bk} {S : Sch} {V : Nat → Value} {w w' : World} {s : St}

theorem CkOk.setH (h : CkOk K S V w s) (hK : K.Ok) {f : Nat → Int} (ho : Only [K.H] w w') (hr : Row w' K.H 9 (u8s f)) : CkOk K S V w' { s with hd := f } := by
  have lt := hK.mem_lt h
  have N := hK.ne
  have g : ∀ {b n : Nat} {g : Nat → Value}, b ∈ K.all → b ≠ K.H → Row w b n g → Row w' b n g := fun hb hne r => r.only ho (lt _ hb) (by simpa using hne)
  have hB : ∀ b ∈ [K.H], b < K.N0 := by intro b hb; simp at hb; subst hb; exact hK.lt _ (by simp [Bk.all])
  exact ⟨Nat.le_trans h.size ho.size, g (by simp [Bk.all]) N.cH h.C, g (by simp [Bk.all]) N.oH h.O, g (by simp [Bk.all]) N.tH h.T, g (by simp [Bk.all]) N.uH h.U, g (by simp [Bk.all]) N.iH h.I, hr, g (by simp [Bk.all]) N.hL.symm h.L, g (by simp [Bk.all]) N.hN.symm h.N,
    g (by simp [Bk.all]) N.hE.symm h.E, g (by simp [Bk.all]) N.hR.symm h.R, h.vl.only ho hB, h.vw.only ho hB, h.vt.only ho hB⟩

theorem CkOk.setL (h : CkOk K S V w s) (hK : K.Ok) {f : Nat → Int} (ho : Only [K.L] w w') (hr : Row w' K.L 9 (i32s f)) : CkOk K S V w' { s with la := f } := by
  have lt := hK.mem_lt h
  have N := hK.ne
  have g : ∀ {b n : Nat} {g : Nat → Value}, b ∈ K.all → b ≠ K.L → Row w b n g → Row w' b n g := fun hb hne r => r.only ho (lt _ hb) (by simpa using hne)
  have hB : ∀ b ∈ [K.L], b < K.N0 := by intro b hb; simp at hb; subst hb; exact hK.lt _ (by simp [Bk.all])
  exact ⟨Nat.le_trans h.size ho.size, g (by simp [Bk.all]) N.cL h.C, g (by simp [Bk.all]) N.oL h.O, g (by simp [Bk.all]) N.tL h.T, g (by simp [Bk.all]) N.uL h.U, g (by simp [Bk.all]) N.iL h.I, g (by simp [Bk.all]) N.hL h.H, hr, g (by simp [Bk.all]) N.lN.symm h.N,
    g (by simp [Bk.all]) N.lE.symm h.E, g (by simp [Bk.all]) N.lR.symm h.R, h.vl.only ho hB, h.vw.only ho hB, h.vt.only ho hB⟩

theorem CkOk.setR (h : CkOk K S V w s) (hK : K.Ok) {f : Nat → Int} (ho : Only [K.R] w w') (hr : Row w' K.R 3 (i32s f)) : CkOk K S V w' { s with rl := f } := by
  have lt := hK.mem_lt h
  have N := hK.ne
  have g : ∀ {b n : Nat} {g : Nat → Value}, b ∈ K.all → b ≠ K.R → Row w b n g → Row w' b n g := fun hb hne r => r.only ho (lt _ hb) (by simpa using hne)
  have hB : ∀ b ∈ [K.R], b < K.N0 := by intro b hb; simp at hb; subst hb; exact hK.lt _ (by simp [Bk.all])
  exact ⟨Nat.le_trans h.size ho.size, g (by simp [Bk.all]) N.cR h.C, g (by simp [Bk.all]) N.oR h.O, g (by simp [Bk.all]) N.tR h.T, g (by simp [Bk.all]) N.uR h.U, g (by simp [Bk.all]) N.iR h.I, g (by simp [Bk.all]) N.hR h.H, g (by simp [Bk.all]) N.lR h.L, g (by simp [Bk.all]) N.nR h.N,
    g (by simp [Bk.all]) N.eR h.E, hr, h.vl.only ho hB, h.vw.only ho hB, h.vt.only ho hB⟩

theorem CkOk.setNE (h : CkOk K S V w s) (hK : K.Ok) {f : Nat → Int} {e : Nat → Bool} (ho : Only [K.N, K.E] w w') (hr : Row w' K.N 3 (i32s f)) (he : Row w' K.E 3 (bools e)) : CkOk K S V w' { s with ho := f, ex := e } := by
  have lt := hK.mem_lt h
  have N := hK.ne
  have g : ∀ {b n : Nat} {g : Nat → Value}, b ∈ K.all → b ≠ K.N → b ≠ K.E → Row w b n g → Row w' b n g := fun hb h1 h2 r => r.only ho (lt _ hb) (by simp [h1, h2])
  have hB : ∀ b ∈ [K.N, K.E], b < K.N0 := by
    intro b hb
    simp at hb
    rcases hb with rfl | rfl <;> exact hK.lt _ (by simp [Bk.all])
  exact ⟨Nat.le_trans h.size ho.size, g (by simp [Bk.all]) N.cN N.cE h.C, g (by simp [Bk.all]) N.oN N.oE h.O, g (by simp [Bk.all]) N.tN N.tE h.T, g (by simp [Bk.all]) N.uN N.uE h.U, g (by simp [Bk.all]) N.iN N.iE h.I, g (by simp [Bk.all]) N.hN N.hE h.H,
    g (by simp [Bk.all]) N.lN N.lE h.L, hr, he, g (by simp [Bk.all]) N.nR.symm N.eR.symm h.R, h.vl.only ho hB, h.vw.only ho hB, h.vt.only ho hB⟩

/-- the checker's own cells are written -/
theorem CkOk.setC (h : CkOk K S V w s) (hK : K.Ok) {V' : Nat → Value} {lg wf tp : List Nat} (ho : Only [K.C] w w') (hr : Row w' K.C 15 (cG K V'))
    (vl : VOk K S w' (V' 4) (V' 5) lg) (vw : VOk K S w' (V' 6) (V' 7) wf) (vt : VOk K S w' (V' 8) (V' 9) tp) : CkOk K S V' w' { s with lg := lg, wf := wf, tp := tp } := by
  have lt := hK.mem_lt h
  have N := hK.ne
  have g : ∀ {b n : Nat} {g : Nat → Value}, b ∈ K.all → b ≠ K.C → Row w b n g → Row w' b n g := fun hb hne r => r.only ho (lt _ hb) (by simpa using hne)
  exact ⟨Nat.le_trans h.size ho.size, hr, g (by simp [Bk.all]) N.oC h.O, g (by simp [Bk.all]) N.tC h.T, g (by simp [Bk.all]) N.uC h.U, g (by simp [Bk.all]) N.iC h.I, g (by simp [Bk.all]) N.cH.symm h.H, g (by simp [Bk.all]) N.cL.symm h.L, g (by simp [Bk.all]) N.cN.symm h.N,
    g (by simp [Bk.all]) N.cE.symm h.E, g (by simp [Bk.all]) N.cR.symm h.R, vl, vw, vt⟩

theorem cG_upd (K : Bk) (V : Nat → Value) (q : Nat) (h4 : 4 ≤ q) (h9 : q ≤ 9) (v : Value) (j : Nat) : (if j = q then v else cG K V j) = cG K (upd V q v) j := by
  by_cases e : j = q
  · subst e
    rw [if_pos rfl, cG]
    rw [if_neg (by omega), if_neg (by omega), if_neg (by omega), if_neg (by omega), if_neg (by omega), if_neg (by omega), if_neg (by omega), if_neg (by omega), if_neg (by omega), upd_same]
  · rw [if_neg e, cG, cG, upd_other _ _ _ _ e]

theorem VOk.congr {o a o' a' : Value} {ps : List Nat} (h : VOk K S w o a ps) (e1 : o = o') (e2 : a = a') : VOk K S w o' a' ps := by subst e1 e2; exact h

/-- a verdict is laid at the checker's cells q, q + 1 -/
theorem CkOk.setV (h : CkOk K S V w s) (hK : K.Ok) (q : Nat) (hq : q = 4 ∨ q = 6 ∨ q = 8) (o a : Value) (ps : List Nat) (hv : VOk K S w o a ps) :
    CkOk K S (upd (upd V q o) (q + 1) a) ((w.setCell ⟨K.C, q, none⟩ o).setCell ⟨K.C, q + 1, none⟩ a) { s with lg := if q = 4 then ps else s.lg, wf := if q = 6 then ps else s.wf, tp := if q = 8 then ps else s.tp } := by
  have ho : Only [K.C] w ((w.setCell ⟨K.C, q, none⟩ o).setCell ⟨K.C, q + 1, none⟩ a) := ((Only.refl _ w).setCell (p := ⟨K.C, q, none⟩) (by simp) _).setCell (p := ⟨K.C, q + 1, none⟩) (by simp) _
  have hB : ∀ b ∈ [K.C], b < K.N0 := by intro b hb; simp at hb; subst hb; exact hK.lt _ (by simp [Bk.all])
  have hr : Row ((w.setCell ⟨K.C, q, none⟩ o).setCell ⟨K.C, q + 1, none⟩ a) K.C 15 (cG K (upd (upd V q o) (q + 1) a)) :=
    (((h.C.set q (by omega) o).congr fun j _ => cG_upd K V q (by omega) (by omega) o j).set (q + 1) (by omega) a).congr fun j _ => cG_upd K _ (q + 1) (by omega) (by omega) a j
  refine h.setC hK ho hr ?_ ?_ ?_
  · rcases hq with rfl | rfl | rfl
    · exact (hv.only ho hB).congr (by simp [upd]) (by simp [upd])
    · exact (h.vl.only ho hB).congr (by simp [upd]) (by simp [upd])
    · exact (h.vl.only ho hB).congr (by simp [upd]) (by simp [upd])
  · rcases hq with rfl | rfl | rfl
    · exact (h.vw.only ho hB).congr (by simp [upd]) (by simp [upd])
    · exact (hv.only ho hB).congr (by simp [upd]) (by simp [upd])
    · exact (h.vw.only ho hB).congr (by simp [upd]) (by simp [upd])
  · rcases hq with rfl | rfl | rfl
    · exact (h.vt.only ho hB).congr (by simp [upd]) (by simp [upd])
    · exact (h.vt.only ho hB).congr (by simp [upd]) (by simp [upd])
    · exact (hv.only ho hB).congr (by simp [upd]) (by simp [upd])

/-- what 'grant' and 'release' read, off the state -/
theorem CkOk.reads (h : CkOk K S V w s) (hK : K.Ok) (u : Nat) (hu : u < 9) (n0 : 0 ≤ s.ho (u % 3)) (n3 : s.ho (u % 3) ≤ 3) :
    Reads K.C K.I K.H K.N K.E u (u % 3) (s.hd u) (s.ho (u % 3)) (s.ex (u % 3)) w := by
  have N := hK.ne
  exact ⟨h.C.cell 3 (by omega), h.C.cell 10 (by omega), h.C.cell 12 (by omega), h.C.cell 13 (by omega), h.I.cell u hu, h.H.cell u hu, h.N.cell _ (by omega), h.E.cell _ (by omega), h.N.frozen _, h.E.frozen _, hu, by omega, n0, n3,
    N.cN.symm, N.hN.symm, N.nE, N.iN.symm⟩

/-- the state behind 'release' -/
def relS (s : St) (u : Nat) : St := if s.hd u = 0 then s else { s with ho := upd s.ho (u % 3) (s.ho (u % 3) - 1), ex := if s.hd u = 2 then upd s.ex (u % 3) false else s.ex }

theorem upd_self {α : Type} (f : Nat → α) (k : Nat) : upd f k (f k) = f := by
  funext j
  by_cases e : j = k
  · subst e; simp [upd]
  · simp [upd, e]

theorem release_ck (h : CkOk K S V w s) (hK : K.Ok) (u : Nat) (hu : u < 9) (n0 : 0 ≤ s.ho (u % 3)) (n3 : s.ho (u % 3) ≤ 3) (hh : s.hd u = 0 ∨ s.hd u = 1 ∨ s.hd u = 2) :
    Calls Yba.prog 16 #[.pointer (some ⟨K.C, 0, none⟩), .int .i32 u] w fun e w' => e = .returned (.bool (s.hd u != 0)) ∧ CkOk K S V w' (relS s u) ∧ Only [K.N, K.E] w w' := by
  have R := h.reads hK u hu n0 n3
  have N := hK.ne
  have hk : u % 3 < 3 := by omega
  rcases hh with e | e | e
  · rw [e] at R
    refine (rel0 R).mono ?_
    rintro e' w' ⟨rfl, rfl⟩
    refine ⟨by rw [e]; rfl, ?_, Only.refl _ _⟩
    rw [relS, if_pos e]; exact h
  · rw [e] at R
    refine (rel1 R).mono ?_
    rintro e' w' ⟨rfl, rfl⟩
    have ho : Only [K.N, K.E] w (w.setCell ⟨K.N, u % 3, none⟩ (.int .i32 (s.ho (u % 3) - 1))) := (Only.refl _ w).setCell (p := ⟨K.N, u % 3, none⟩) (by simp) _
    refine ⟨by rw [e]; rfl, ?_, ho⟩
    rw [relS, if_neg (by omega), if_neg (by omega)]
    exact h.setNE hK ho (h.N.setI32 _ hk _) (h.E.other (p := ⟨K.N, u % 3, none⟩) N.nE _)
  · rw [e] at R
    refine (rel2 R).mono ?_
    rintro e' w' ⟨rfl, rfl⟩
    have ho : Only [K.N, K.E] w ((w.setCell ⟨K.N, u % 3, none⟩ (.int .i32 (s.ho (u % 3) - 1))).setCell ⟨K.E, u % 3, none⟩ (.bool false)) := ((Only.refl _ w).setCell (p := ⟨K.N, u % 3, none⟩) (by simp) _).setCell (p := ⟨K.E, u % 3, none⟩) (by simp) _
    refine ⟨by rw [e]; rfl, ?_, ho⟩
    rw [relS, if_neg (by omega), if_pos e]
    exact h.setNE hK ho ((h.N.setI32 _ hk _).other (p := ⟨K.E, u % 3, none⟩) N.nE.symm _) ((h.E.other (p := ⟨K.N, u % 3, none⟩) N.nE _).setBool _ hk _)

/-- 'grant', plainly: the new count and mark, none where it is refused -/
def grF (h want n : Int) (e : Bool) : Option (Int × Bool) :=
  if h = 2 then none else if h = 1 then (if want = 1 then none else if 1 < n then none else some (n, true)) else
  (if want = 1 then (if e then none else some (n + 1, false)) else (if 0 < n then none else some (n + 1, true)))

def grS (s : St) (u : Nat) (want : Int) : St := match grF (s.hd u) want (s.ho (u % 3)) (s.ex (u % 3)) with
  | none => s
  | some p => { s with ho := upd s.ho (u % 3) p.1, ex := upd s.ex (u % 3) p.2 }

theorem grant_ck (h : CkOk K S V w s) (hK : K.Ok) (u : Nat) (hu : u < 9) (n0 : 0 ≤ s.ho (u % 3)) (n3 : s.ho (u % 3) ≤ 3) (hh : s.hd u = 0 ∨ s.hd u = 1 ∨ s.hd u = 2) (want : Int) (hw : want = 1 ∨ want = 2) :
    Calls Yba.prog 17 #[.pointer (some ⟨K.C, 0, none⟩), .int .i32 u, .int .u8 want] w fun e w' => e = .returned (.bool (grF (s.hd u) want (s.ho (u % 3)) (s.ex (u % 3))).isSome) ∧ CkOk K S V w' (grS s u want) ∧ Only [K.N, K.E] w w' := by
  have R := h.reads hK u hu n0 n3
  have N := hK.ne
  have hk : u % 3 < 3 := by omega
  have no : grF (s.hd u) want (s.ho (u % 3)) (s.ex (u % 3)) = none → ∀ {e : Ending} {w' : World}, e = .returned (.bool false) ∧ w' = w → e = .returned (.bool (grF (s.hd u) want (s.ho (u % 3)) (s.ex (u % 3))).isSome) ∧ CkOk K S V w' (grS s u want) ∧ Only [K.N, K.E] w w' := by
    rintro hn e w' ⟨rfl, rfl⟩
    refine ⟨by rw [hn]; rfl, ?_, Only.refl _ _⟩
    rw [grS, hn]; exact h
  have yes : ∀ (n : Int) (b : Bool), grF (s.hd u) want (s.ho (u % 3)) (s.ex (u % 3)) = some (n, b) → ∀ {e : Ending} {w' : World}, e = .returned (.bool true) → Only [K.N, K.E] w w' → Row w' K.N 3 (i32s (upd s.ho (u % 3) n)) → Row w' K.E 3 (bools (upd s.ex (u % 3) b)) →
      e = .returned (.bool (grF (s.hd u) want (s.ho (u % 3)) (s.ex (u % 3))).isSome) ∧ CkOk K S V w' (grS s u want) ∧ Only [K.N, K.E] w w' := by
    rintro n b hn e w' rfl ho r1 r2
    refine ⟨by rw [hn]; rfl, ?_, ho⟩
    rw [grS, hn]; exact h.setNE hK ho r1 r2
  have ho2 : ∀ (v : Value) (b : Bool), Only [K.N, K.E] w ((w.setCell ⟨K.N, u % 3, none⟩ v).setCell ⟨K.E, u % 3, none⟩ (.bool b)).drew := fun v b => (((Only.refl _ w).setCell (p := ⟨K.N, u % 3, none⟩) (by simp) _).setCell (p := ⟨K.E, u % 3, none⟩) (by simp) _).drew
  rcases hh with e | e | e
  · rw [e] at R
    rcases hw with rfl | rfl
    · cases hx : s.ex (u % 3) with
      | true =>
        rw [hx] at R
        rw [← hx]
        exact (gr_e R).mono fun _ _ hc => no (by rw [grF, e, hx]; rfl) hc
      | false =>
        rw [hx] at R
        rw [← hx]
        refine (gr_f R).mono ?_
        rintro e' w' ⟨rfl, rfl⟩
        exact yes _ false (by rw [grF, e, hx]; rfl) rfl (ho2 _ _) ((h.N.setI32 _ hk _).other (p := ⟨K.E, u % 3, none⟩) N.nE.symm _).drew ((h.E.other (p := ⟨K.N, u % 3, none⟩) N.nE _).setBool _ hk _).drew
    · by_cases hn : 0 < s.ho (u % 3)
      · exact (gr_g R hn).mono fun _ _ hc => no (by rw [grF, e]; simp [hn]) hc
      · refine (gr_h R (by omega)).mono ?_
        rintro e' w' ⟨rfl, rfl⟩
        exact yes _ true (by rw [grF, e]; simp [hn]) rfl (ho2 _ _) ((h.N.setI32 _ hk _).other (p := ⟨K.E, u % 3, none⟩) N.nE.symm _).drew ((h.E.other (p := ⟨K.N, u % 3, none⟩) N.nE _).setBool _ hk _).drew
  · rw [e] at R
    rcases hw with rfl | rfl
    · exact (gr_b R).mono fun _ _ hc => no (by rw [grF, e]; rfl) hc
    · by_cases hn : 1 < s.ho (u % 3)
      · exact (gr_c R hn).mono fun _ _ hc => no (by rw [grF, e]; simp [hn]) hc
      · refine (gr_d R (by omega)).mono ?_
        rintro e' w' ⟨rfl, rfl⟩
        refine yes (s.ho (u % 3)) true (by rw [grF, e]; simp [hn]) rfl (((Only.refl _ w).setCell (p := ⟨K.E, u % 3, none⟩) (by simp) _).drew) ?_ (h.E.setBool _ hk _).drew
        rw [upd_self]
        exact (h.N.other (p := ⟨K.E, u % 3, none⟩) N.nE.symm _).drew
  · rw [e] at R
    exact (gr_a R).mono fun _ _ hc => no (by rw [grF, e]; rfl) hc

end
end Go.Proofs.Ybulkhwa

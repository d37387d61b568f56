import Derived.Test.YbulkhwaWh
namespace Go.Proofs.Ybulkhwa
open Go.RowKit Go.Pool

/-- is the wait to be reported? -/
def Nm.due (n : Nm) (left : Int) (pre : Bool) : Bool := (decide (left < 0) || (n.cur != left)) && !pre

/-- the world behind the report, or as it was -/
def Rep (K : Mb) (B : Cp) (w wR : World) (n : Nm) (rv : Value) (rep : Bool) : Prop :=
  (rep = true ∧ ∃ q, Wrote K B (w.drewN q) wR n.it (zsTo n.L K.t n.hn) rv) ∨ (rep = false ∧ ∃ q, wR = w.drewN q)

/-- .. and behind the join -/
def Jnd (K : Mb) (wR w' : World) (n : Nm) (d : Nd) (inn : Nat → Int) : Prop :=
  (n.cur = 0 ∧ n.lvl = true ∧ Joined K wR w' d inn 0 n.lb n.rt) ∨ (n.cur = -1 ∧ NewJoin K wR w' n.iv d inn n.ln)

theorem wait_any (K : Mb) (hK : K.Ok) (r : Rb) (B : Cp) (w : World) (n : Nm) (d : Nd) (inn : Nat → Int) (left : Int) (pre fr : Bool) (sv ev : Value) (hsv : ∃ T p, sv = .iface T p) (rv : Value) (hrv : rv = if fr then sv else .nilIface)
    (h : Whole K r B w n d inn) (ha : Apart K r B n) (hB : B.At w fr sv) (hcn : 0 < n.cnt → 0 < n.hn) (hrt : n.lvl = true → RtOk K d n.rt)
    (c30 : w.cell? ⟨K.C, 30, none⟩ = some (.slice none 0 0)) (c31 : w.cell? ⟨K.C, 31, none⟩ = some ev) (hev : pre = false ∧ ev = .nilIface ∨ pre = true ∧ ∃ T p, ev = .iface T p) :
    Calls Yba.prog 11 #[.pointer (some ⟨K.C, 0, none⟩), .int .i32 K.t, .int .i32 K.t, .int .i32 left] w fun e w' => e = .returned (.tuple #[]) ∧ ∃ wR, Rep K B w wR n rv (n.due left pre) ∧ Jnd K wR w' n d inn := by
  refine wait_glue K.C r.LI r.LO K.N K.t left n.cur w hK.t h.c16 h.c3 h.lo h.li (h.curOk hcn) (fun wR => Rep K B w wR n rv (n.due left pre)) _ ?_ ?_ ?_
  · intro hd q
    have hd' : (decide (left < 0) || (n.cur != left)) = true := by
      rcases hd with h | h <;> simp [h]
    rcases hev with ⟨rfl, rfl⟩ | ⟨rfl, T, p, rfl⟩
    · have hw := h.drewN q
      have hR : RwAt K r.O r.X r.LO r.J r.LI B (w.drewN q) n.hp n.hn n.hc n.it := ⟨hw.c0, hw.c1, hw.c3, hw.c15, hw.c16, hw.jn.c20, hw.c29, c30, c31, hw.i0, hw.lo, hw.li, hw.j, hw.x, hw.o0, hw.o1, hw.o2, hw.jn.fC, ha.nC, ha.ap _ (by simp)⟩
      refine (reportWait_any K hK r.O r.X r.LO r.J r.LI B (w.drewN q) n.hp n.hn n.hc n.it n.L n.vr fr sv hsv rv hrv hR hw.ho (hB.only ((Only.refl [] w).drewN q) (by simp))).mono ?_
      rintro e w' ⟨rfl, hW⟩
      exact ⟨rfl, Or.inl ⟨by simp [Nm.due, hd'], q, hW⟩⟩
    · refine (reportWait_err K.C K.t T p (w.drewN q) c31).mono ?_
      rintro e w' ⟨rfl, rfl⟩
      exact ⟨rfl, Or.inr ⟨by simp [Nm.due], q, rfl⟩⟩
  · intro hd q
    have hd' : (decide (left < 0) || (n.cur != left)) = false := by
      simp only [not_or, Decidable.not_not] at hd
      simp [hd.2]
      omega
    exact Or.inr ⟨by simp [Nm.due, hd'], q, rfl⟩
  · intro w1 hR
    have hw : Whole K r B w1 n d inn := by
      rcases hR with ⟨_, q, hW⟩ | ⟨_, q, rfl⟩
      · exact (h.drewN q).keep hK ha hW.only hW.cc hW.fC
      · exact h.drewN q
    have hc := hw.curOk hcn
    have hcur : n.cur = 0 ∧ n.lvl = true ∨ n.cur = -1 := by
      unfold Nm.cur
      split
      · rename_i h
        simp at h
        exact Or.inl ⟨rfl, h.1⟩
      · exact Or.inr rfl
    rcases hcur with ⟨hc0, hl⟩ | hc1
    · rcases hw.lv with ⟨_, h2, h3, h4, h5⟩ | ⟨h1, _⟩
      · obtain ⟨a1, a2, a3, a4, a5⟩ := ha.lv hl
        have lv : Lev K w1 0 n.lb 1 1 n.fb 1 n.lv n.rt := by
          refine ⟨by omega, h2, ?_, ?_, ?_, fun j => h4.frozenAt j, a3, h3, ?_, a4, a5⟩
          · rw [h4.cellAt _ (by omega)]; rfl
          · rw [h4.cellAt _ (by omega)]; rfl
          · rw [h4.cellAt _ (by omega)]; rfl
          · rw [h5.cellAt _ (by omega)]; rfl
        rw [hc0] at hc
        refine (join_old K hK w1 n.iv d inn hw.jn hc n.lb 1 n.fb 1 n.lv n.rt lv (hrt hl)).mono ?_
        rintro e w' ⟨rfl, hj⟩
        exact ⟨rfl, w1, hR, Or.inl ⟨hc0, hl, hj⟩⟩
      · rw [hl] at h1; cases h1
    · rw [hc1] at hc
      rcases hw.lv with ⟨hl, h2, h3, h4, h5⟩ | ⟨h1, h2, h3⟩
      · obtain ⟨a1, a2, a3, a4, a5⟩ := ha.lv hl
        refine (join_new K hK w1 n.iv d inn hw.jn hc _ _ 1 _ _ (by omega) h2 h3 h4 h5 ?_).mono ?_
        · intro p hp
          cases hp
          intro e
          exact a2 (by simp at e; simp [e])
        · rintro e w' ⟨rfl, hj⟩
          exact ⟨rfl, w1, hR, Or.inr ⟨hc1, by rw [show n.ln = 1 by simp [Nm.ln, hl]]; exact hj⟩⟩
      · refine (join_new K hK w1 n.iv d inn hw.jn hc none none 0 [] [] (by omega) h2 h3 (World.ownsRow_nil _ _ _ _) (World.ownsRow_nil _ _ _ _) (by simp)).mono ?_
        rintro e w' ⟨rfl, hj⟩
        exact ⟨rfl, w1, hR, Or.inr ⟨hc1, by rw [show n.ln = 0 by simp [Nm.ln, h1]]; exact hj⟩⟩

end Go.Proofs.Ybulkhwa

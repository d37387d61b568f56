import Derived.Test.YbulkhwaStepR
namespace Go.Proofs.Ybulkhwa
open Go.RowKit

/-- the state behind an unlock -/
def unlA (s : St) (u : Nat) : St := if s.lg = [] then relS s u else s
def unl1 (s : St) (u i : Nat) : St := if s.lg = [] ∧ s.hd u = 0 then { unlA s u with lg := [i] } else unlA s u
def unl2 (s : St) (t i : Nat) : St := if s.rl t < 0 then { s with rl := upd s.rl t i } else s
def unlS (s : St) (u t i : Nat) : St := { unl2 (unl1 s u i) t i with hd := upd (unl2 (unl1 s u i) t i).hd u 0 }

theorem Only.wrNE {K : Bk} {w w' : World} (h : Only [K.N, K.E] w w') : Only K.wr w w' := h.mono (by simp [Bk.wr])

set_option maxRecDepth 100000 in
set_option maxHeartbeats 1000000 in
theorem step_unlock {K : Bk} {S : Sch} {V : Nat → Value} {w : World} {s : St} (h : CkOk K S V w s) (hK : K.Ok) (i u t : Nat) (a : At K S i u t) (hkd : S.kd i = 117)
    (hho : s.lg = [] → 0 ≤ s.ho (u % 3) ∧ s.ho (u % 3) ≤ 3) (hhd : s.hd u = 0 ∨ s.hd u = 1 ∨ s.hd u = 2) :
    Calls Yba.prog 6 #[.pointer (some ⟨K.C, 0, none⟩), .int .i32 i] w fun e w' => e = .returned (.tuple #[]) ∧ Left K S (unlS s u t i) w w' := by
  have hi := a.hi
  have hu := a.hu
  have ht := a.ht
  have hn := hK.n
  have hi1 : (i : Int) < (K.n : Int) := by omega
  have HH : Hid (CkOk K S V w s) := h
  have HK : Hid K.Ok := hK
  have HA : Hid (At K S i u t) := a
  have HKD : Hid (S.kd i = 117) := hkd
  have HHO : Hid (s.lg = [] → 0 ≤ s.ho (u % 3) ∧ s.ho (u % 3) ≤ 3) := hho
  have HHD : Hid (s.hd u = 0 ∨ s.hd u = 1 ∨ s.hd u = 2) := hhd
  obtain ⟨c0, c1, c2, c4, c5, c6, c7, c8, c9, c10, c11, c14, o0, o1, o2, cu, ct, ch, cl, cr, fc, fh, fl, fr, lC, lO, lT, lU, lH, lL, lR⟩ := h.sp hK a hkd
  clear h hK a hkd hho hhd c6 c7 c8 c9 c10 c11 c14 ch cl cr fc fh fl fr lL lR lH
  go_enter Yba.func6, Yba.ntmps6
  go_upto_region 1 with fail
  go_quiet (fail)
  go_upto_region 11 with fail
  go_cut [76] (fun s76 wx => s76 = .bool (decide (s.lg = [] ∧ s.hd u = 0)) ∧ Left K S (unlA s u) w wx)
  case first => as_aux_lemma =>
    by_cases hlg : s.lg = []
    · obtain ⟨e4, e5⟩ := VOk.nil_of (hlg ▸ HH.out.vl)
      rw [e4] at c4
      rw [e5] at c5
      have hb := HHO.out hlg
      have hA : Hid (unlA s u = relS s u) := by show _ = _; rw [unlA, if_pos hlg]
      have hB : Hid (decide (s.lg = [] ∧ s.hd u = 0) = decide (s.hd u = 0)) := by show _ = _; simp [hlg]
      clear hlg e4 e5
      go_wp2_with fail
      refine (holds_any _ _ _ _ _).mono ?_
      rintro e w1 ⟨rfl, rfl⟩
      go_wp2_with fail
      refine (release_ck (HH.out.only HK.out ?ho1) HK.out u hu hb.1 hb.2 HHD.out).mono ?_
      case ho1 => repeat (first | exact Only.refl _ _ | apply Only.drew | apply Only.drewN | apply Only.alloc)
      rintro e w2 ⟨rfl, hc, ho⟩
      have HL : Hid (Left K S (relS s u) w w2) := ⟨⟨V, hc⟩, (by repeat (first | exact Only.refl _ _ | apply Only.drew | apply Only.drewN | apply Only.alloc) : Only K.wr w _).trans ho.wrNE⟩
      clear hc ho c0 c1 c2 c4 c5 o0 o1 o2 cu ct
      go_wp2
      go_meet
      rw [hA.out, hB.out]
      exact ⟨by congr 1; by_cases h0 : s.hd u = 0 <;> simp [h0], HL.out⟩
    · obtain ⟨x, l, c, y, e4, e5⟩ := VOk.some_of HH.out.vl hlg
      rw [e4] at c4
      have hA : Hid (unlA s u = s) := by show _ = _; rw [unlA, if_neg hlg]
      have hB : Hid (decide (s.lg = [] ∧ s.hd u = 0) = false) := by show _ = _; simp [hlg]
      clear hlg e4 e5
      go_wp2_with fail
      refine (holds_any _ _ _ _ _).mono ?_
      rintro e w1 ⟨rfl, rfl⟩
      go_wp2
      go_meet
      rw [hA.out, hB.out]
      exact ⟨rfl, Left.same HH.out HK.out (by repeat (first | exact Only.refl _ _ | apply Only.drew | apply Only.drewN | apply Only.alloc))⟩
  case rest =>
    obtain ⟨rfl, hl⟩ := hcut
    have HL : Hid (Left K S (unlA s u) w wc) := hl
    clear hl c0 c1 c2 c4 c5 o0 o1 o2 cu ct lC lO lT lU
    go_upto_if 76 with fail
    go_cut [] (fun wx => Left K S (unl1 s u i) w wx)
    case first => as_aux_lemma =>
      by_cases hb : s.lg = [] ∧ s.hd u = 0
      · have hA : Hid (unl1 s u i = { unlA s u with lg := [i] }) := by show _ = _; rw [unl1, if_pos hb]
        have hB : decide (s.lg = [] ∧ s.hd u = 0) = true := decide_eq_true hb
        rw [hB]
        clear hb hB
        obtain ⟨V1, hC0⟩ := HL.out.1
        have HC1 : Hid (CkOk K S V1 wc (unlA s u)) := hC0
        clear hC0
        go_wp2_with fail
        refine (verdict_one (HC1.out.only HK.out ?ho1) HK.out i _ hi ?hA).mono ?_
        case ho1 => repeat (first | exact Only.refl _ _ | apply Only.drew | apply Only.drewN | apply Only.alloc)
        case hA => rw [World.cell?_alloc_at _ _ _ _ (by simp)]; rfl
        rintro e w2 ⟨bo, ba, rfl, hv, ho2⟩
        have ho : Only [] wc w2 := (by repeat (first | exact Only.refl _ _ | apply Only.drew | apply Only.drewN | apply Only.alloc) : Only [] wc _).trans ho2
        have hC2 : CkOk K S V1 w2 (unlA s u) := HC1.out.only HK.out ho
        have c4' : w2.cell? ⟨K.C, 4, none⟩ = some (V1 4) := hC2.C.cell 4 (by omega)
        have c5' : w2.cell? ⟨K.C, 5, none⟩ = some (V1 5) := hC2.C.cell 5 (by omega)
        have f6 := hC2.C.frozen 4
        have f7 := hC2.C.frozen 5
        have HV : Hid (VOk K S w2 (.slice (some ⟨bo, 0, none⟩) 1 1) (.slice (some ⟨ba, 0, none⟩) 1 1) [i]) := hv
        have HO : Hid (Only [] wc w2) := ho
        have HC : Hid (CkOk K S V1 w2 (unlA s u)) := hC2
        clear hv ho hC2 ho2
        go_wp2
        go_meet
        rw [hA.out]
        exact ⟨⟨_, HC.out.setV HK.out 4 (by omega) _ _ [i] HV.out⟩, HL.out.2.trans (((HO.out.mono (by simp)).setCell (p := ⟨K.C, 4, none⟩) (by simp [Bk.wr]) _).setCell (p := ⟨K.C, 5, none⟩) (by simp [Bk.wr]) _)⟩
      · have hA : Hid (unl1 s u i = unlA s u) := by show _ = _; rw [unl1, if_neg hb]
        have hB : decide (s.lg = [] ∧ s.hd u = 0) = false := decide_eq_false hb
        rw [hB]
        clear hb hB
        go_wp2
        go_meet
        rw [hA.out]
        exact HL.out
    case rest =>
      clear HL
      obtain ⟨⟨V1, hC0⟩, ho0⟩ := hcut
      have HC1 : Hid (CkOk K S V1 wc (unl1 s u i)) := hC0
      have HO1 : Hid (Only K.wr w wc) := ho0
      obtain ⟨c0, c1, c2, c4, c5, c6, c7, c8, c9, c10, c11, c14, o0, o1, o2, cu, ct, ch, cl, cr, fc, fh, fl, fr, lC, lO, lT, lU, lH, lL, lR⟩ := hC0.sp HK.out HA.out HKD.out
      clear hC0 ho0 c0 c1 c2 c4 c5 c6 c7 c8 c9 c11 o0 o1 o2 cu ct cl fc fl lC lO lT lU lH lL lR
      have hN := HK.out.ne.hR
      have hN2 := HK.out.ne.cR.symm
      have hN3 := HK.out.ne.hR.symm
      have fru := fr t
      have fhu := fh u
      clear fr fh
      by_cases hr : (unl1 s u i).rl t < 0
      · have hA : Hid (unl2 (unl1 s u i) t i = { unl1 s u i with rl := upd (unl1 s u i).rl t i }) := by show _ = _; rw [unl2, if_pos hr]
        go_wp2
        go_end0
        refine ⟨rfl, ?_⟩
        unfold unlS
        rw [hA.out]
        have k1 := HC1.out.setR HK.out ((Only.refl _ _).setCell (p := ⟨K.R, t, none⟩) (by simp) _) (HC1.out.R.setI32 t ht i)
        have k2 := k1.setH HK.out ((Only.refl _ _).setCell (p := ⟨K.H, u, none⟩) (by simp) _) (k1.H.setU8 u hu 0)
        exact ⟨⟨_, k2⟩, (HO1.out.setCell (p := ⟨K.R, t, none⟩) (by simp [Bk.wr]) _).setCell (p := ⟨K.H, u, none⟩) (by simp [Bk.wr]) _⟩
      · have hA : Hid (unl2 (unl1 s u i) t i = unl1 s u i) := by show _ = _; rw [unl2, if_neg hr]
        go_wp2
        go_end0
        refine ⟨rfl, ?_⟩
        unfold unlS
        rw [hA.out]
        have k2 := HC1.out.setH HK.out ((Only.refl _ _).setCell (p := ⟨K.H, u, none⟩) (by simp) _) (HC1.out.H.setU8 u hu 0)
        exact ⟨⟨_, k2⟩, HO1.out.setCell (p := ⟨K.H, u, none⟩) (by simp [Bk.wr]) _⟩

end Go.Proofs.Ybulkhwa

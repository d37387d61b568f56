import Derived.Test.YbulkhwaLockD
namespace Go.Proofs.Ybulkhwa
open Go.RowKit

set_option maxRecDepth 100000 in
set_option maxHeartbeats 2000000 in
theorem step_lock115 {K : Bk} {S : Sch} {V : Nat → Value} {w : World} {s : St} (h : CkOk K S V w s) (hK : K.Ok) (i u t : Nat) (a : At K S i u t) (hkd : S.kd i = 115)
    (hho : s.lg = [] → 0 ≤ s.ho (u % 3) ∧ s.ho (u % 3) ≤ 3) (hhd : s.hd u = 0 ∨ s.hd u = 1 ∨ s.hd u = 2) (hrl : s.rl t < K.n) :
    Calls Yba.prog 6 #[.pointer (some ⟨K.C, 0, none⟩), .int .i32 i] w fun e w' => e = .returned (.tuple #[]) ∧ Left K S (lockS s u t i 1) w w' := by
  have hi := a.hi
  have hu := a.hu
  have ht := a.ht
  have hn := hK.n
  have hi1 : (i : Int) < (K.n : Int) := by omega
  have HH : Hid (CkOk K S V w s) := h
  have HK : Hid K.Ok := hK
  have HA : Hid (At K S i u t) := a
  have HKD : Hid (S.kd i = 115) := hkd
  have HHO : Hid (s.lg = [] → 0 ≤ s.ho (u % 3) ∧ s.ho (u % 3) ≤ 3) := hho
  have HHD : Hid (s.hd u = 0 ∨ s.hd u = 1 ∨ s.hd u = 2) := hhd
  have HRL : Hid (s.rl t < K.n) := hrl
  obtain ⟨c0, c1, c2, c4, c5, c6, c7, c8, c9, c10, c11, c14, o0, o1, o2, cu, ct, ch, cl, cr, fc, fh, fl, fr, lC, lO, lT, lU, lH, lL, lR⟩ := h.sp hK a hkd
  clear h hK a hkd hho hhd hrl c6 c7 c8 c9 c10 c11 c14 ch cl cr fc fh fl fr lL lR lH
  go_enter Yba.func6, Yba.ntmps6
  go_upto_region 1 with fail
  go_quiet (fail)
  go_upto_region 22 with fail
  go_cut [125] (fun s76 wx => s76 = .bool (refu s u 1) ∧ Left K S (lockA s u 1) w wx)
  case first => as_aux_lemma =>
    by_cases hlg : s.lg = []
    · obtain ⟨e4, e5⟩ := VOk.nil_of (hlg ▸ HH.out.vl)
      rw [e4] at c4
      rw [e5] at c5
      have hb := HHO.out hlg
      have hA : Hid (lockA s u 1 = grS s u 1) := by show _ = _; rw [lockA, if_pos hlg]
      have hB : Hid (refu s u 1 = !(grF (s.hd u) 1 (s.ho (u % 3)) (s.ex (u % 3))).isSome) := by show _ = _; simp [refu, hlg]
      clear hlg e4 e5
      go_wp2_with fail
      refine (holds_any _ _ _ _ _).mono ?_
      rintro e w1 ⟨rfl, rfl⟩
      go_wp2_with fail
      refine (grant_ck (HH.out.only HK.out ?ho1) HK.out u hu hb.1 hb.2 HHD.out 1 (by omega)).mono ?_
      case ho1 => repeat (first | exact Only.refl _ _ | apply Only.drew | apply Only.drewN | apply Only.alloc)
      rintro e w2 ⟨rfl, hc, ho⟩
      have HL : Hid (Left K S (grS s u 1) w w2) := ⟨⟨V, hc⟩, (by repeat (first | exact Only.refl _ _ | apply Only.drew | apply Only.drewN | apply Only.alloc) : Only K.wr w _).trans ho.wrNE⟩
      clear hc ho c0 c1 c2 c4 c5 o0 o1 o2 cu ct
      generalize hg : (grF (s.hd u) 1 (s.ho (u % 3)) (s.ex (u % 3))).isSome = g at *
      have HGG : Hid (refu s u 1 = !g) := hB.out
      clear hg hB
      go_wp2
      go_meet
      rw [hA.out, HGG.out]
      exact ⟨rfl, HL.out⟩
    · obtain ⟨x, l, c, y, e4, e5⟩ := VOk.some_of HH.out.vl hlg
      rw [e4] at c4
      have hA : Hid (lockA s u 1 = s) := by show _ = _; rw [lockA, if_neg hlg]
      have hB : Hid (refu s u 1 = false) := by show _ = _; simp [refu, hlg]
      clear hlg e4 e5
      go_wp2_with fail
      refine (holds_any _ _ _ _ _).mono ?_
      rintro e w1 ⟨rfl, rfl⟩
      go_wp2
      go_meet
      rw [hA.out, hB.out]
      exact ⟨rfl, Left.same HH.out HK.out (by repeat (first | exact Only.refl _ _ | apply Only.drew | apply Only.drewN | apply Only.alloc))⟩
  case rest =>
    obtain ⟨rfl, hl⟩ := hcut
    have HL : Hid (Left K S (lockA s u 1) w wc) := hl
    clear hl c0 c1 c2 c4 c5 o0 o1 o2 cu ct lC lO lT lU
    go_upto_if 125 with fail
    go_cut [] (fun wx => Left K S (lock1 s u i 1) w wx)
    case first => as_aux_lemma =>
      cases hb : refu s u 1 with
      | true =>
        have hA : Hid (lock1 s u i 1 = { lockA s u 1 with lg := [i] }) := by show _ = _; rw [lock1, if_pos hb]
        clear hb
        obtain ⟨V1, hC0⟩ := HL.out.1
        have HC1 : Hid (CkOk K S V1 wc (lockA s u 1)) := hC0
        clear hC0
        go_wp2_with fail
        refine (verdict_one (HC1.out.only HK.out ?ho1) HK.out i _ hi ?hA).mono ?_
        case ho1 => repeat (first | exact Only.refl _ _ | apply Only.drew | apply Only.drewN | apply Only.alloc)
        case hA => rw [World.cell?_alloc_at _ _ _ _ (by simp)]; rfl
        rintro e w2 ⟨bo, ba, rfl, hv, ho2⟩
        have ho : Only [] wc w2 := (by repeat (first | exact Only.refl _ _ | apply Only.drew | apply Only.drewN | apply Only.alloc) : Only [] wc _).trans ho2
        have hC2 : CkOk K S V1 w2 (lockA s u 1) := HC1.out.only HK.out ho
        have c4' : w2.cell? ⟨K.C, 4, none⟩ = some (V1 4) := hC2.C.cell 4 (by omega)
        have c5' : w2.cell? ⟨K.C, 5, none⟩ = some (V1 5) := hC2.C.cell 5 (by omega)
        have f6 := hC2.C.frozen 4
        have f7 := hC2.C.frozen 5
        have HV : Hid (VOk K S w2 (.slice (some ⟨bo, 0, none⟩) 1 1) (.slice (some ⟨ba, 0, none⟩) 1 1) [i]) := hv
        have HO : Hid (Only [] wc w2) := ho
        have HC : Hid (CkOk K S V1 w2 (lockA s u 1)) := hC2
        clear hv ho hC2 ho2
        go_wp2
        go_meet
        rw [hA.out]
        exact ⟨⟨_, HC.out.setV HK.out 4 (by omega) _ _ [i] HV.out⟩, HL.out.2.trans (((HO.out.mono (by simp)).setCell (p := ⟨K.C, 4, none⟩) (by simp [Bk.wr]) _).setCell (p := ⟨K.C, 5, none⟩) (by simp [Bk.wr]) _)⟩
      | false =>
        have hA : Hid (lock1 s u i 1 = lockA s u 1) := by show _ = _; rw [lock1, if_neg (by rw [hb]; simp)]
        clear hb
        go_wp2
        go_meet
        rw [hA.out]
        exact HL.out
    case rest =>
      clear HL
      have hl := hcut
      clear hcut
      have e1 := lock1_hd s u i 1
      have HR1 : Hid ((lock1 s u i 1).rl t < K.n) := by show _ < _; rw [e1.2.1]; exact HRL.out
      have HD1 : Hid ((lock1 s u i 1).hd u = 0 ∨ (lock1 s u i 1).hd u = 1 ∨ (lock1 s u i 1).hd u = 2) := by rw [e1.1]; exact HHD.out
      clear e1 HRL HHD HHO HH
      show _
      generalize hs1 : lock1 s u i 1 = s1 at *
      have HS1 : Hid (lockS s u t i 1 = lock4 (lock3 (lock2 s1 t i) u i) u 1) := by show _ = _; rw [lockS, hs1]
      clear hs1
      obtain ⟨⟨V1, hC0⟩, ho0⟩ := hl
      have HC1 : Hid (CkOk K S V1 wc s1) := hC0
      have HO1 : Hid (Only K.wr w wc) := ho0
      obtain ⟨c0, c1, c2, c4, c5, c6, c7, c8, c9, c10, c11, c14, o0, o1, o2, cu, ct, ch, cl, cr, fc, fh, fl, fr, lC, lO, lT, lU, lH, lL, lR⟩ := hC0.sp HK.out HA.out HKD.out
      clear hC0 ho0 c0 c1 c2 c4 c5 c6 c7 c10 c11 o0 o1 o2 cu ct ch cl fc fh fl fr lO lT lU lH lL
      go_upto_region 24 with fail
      go_cut [149] (fun s76 wx => s76 = .bool (decide (s1.tp = [] ∧ 0 ≤ s1.rl t)) ∧ CkOk K S V1 wx s1 ∧ Only K.wr w wx)
      case first => as_aux_lemma =>
        by_cases htp : s1.tp = []
        · obtain ⟨e4, e5⟩ := VOk.nil_of (htp ▸ HC1.out.vt)
          rw [e4] at c8
          rw [e5] at c9
          have hB : Hid (decide (s1.tp = [] ∧ 0 ≤ s1.rl t) = decide (0 ≤ s1.rl t)) := by show _ = _; simp [htp]
          clear htp e4 e5
          go_wp2_with fail
          refine (holds_any _ _ _ _ _).mono ?_
          rintro e w1 ⟨rfl, rfl⟩
          go_wp2
          go_meet
          rw [hB.out]
          exact ⟨rfl, HC1.out.only HK.out (by repeat (first | exact Only.refl _ _ | apply Only.drew | apply Only.drewN | apply Only.alloc)), HO1.out.trans (by repeat (first | exact Only.refl _ _ | apply Only.drew | apply Only.drewN | apply Only.alloc))⟩
        · obtain ⟨x, l, c, y, e4, e5⟩ := VOk.some_of HC1.out.vt htp
          rw [e4] at c8
          have hB : Hid (decide (s1.tp = [] ∧ 0 ≤ s1.rl t) = false) := by show _ = _; simp [htp]
          clear htp e4 e5
          go_wp2_with fail
          refine (holds_any _ _ _ _ _).mono ?_
          rintro e w1 ⟨rfl, rfl⟩
          go_wp2
          go_meet
          rw [hB.out]
          exact ⟨rfl, HC1.out.only HK.out (by repeat (first | exact Only.refl _ _ | apply Only.drew | apply Only.drewN | apply Only.alloc)), HO1.out.trans (by repeat (first | exact Only.refl _ _ | apply Only.drew | apply Only.drewN | apply Only.alloc))⟩
      case rest =>
        clear HC1 HO1 c8 c9 c14 cr lC lR
        obtain ⟨rfl, hC0, ho0⟩ := hcut
        have HC1 : Hid (CkOk K S V1 wc s1) := hC0
        have HO1 : Hid (Only K.wr w wc) := ho0
        obtain ⟨c0, c1, c2, c4, c5, c6, c7, c8, c9, c10, c11, c14, o0, o1, o2, cu, ct, ch, cl, cr, fc, fh, fl, fr, lC, lO, lT, lU, lH, lL, lR⟩ := hC0.sp HK.out HA.out HKD.out
        clear hC0 ho0 c0 c1 c2 c4 c5 c6 c7 c8 c9 c10 c11 o0 o1 o2 cu ct ch cl fc fh fl fr lO lT lU lH lL
        go_upto_if 149 with fail
        go_cut [] (fun wx => Left K S (lock2 s1 t i) w wx)
        case first => as_aux_lemma =>
          by_cases hb : s1.tp = [] ∧ 0 ≤ s1.rl t
          · have hB : decide (s1.tp = [] ∧ 0 ≤ s1.rl t) = true := decide_eq_true hb
            rw [hB]
            obtain ⟨p, hp⟩ : ∃ p : Nat, s1.rl t = (p : Int) := ⟨(s1.rl t).toNat, by omega⟩
            have hpn : p < K.n := by have := HR1.out; omega
            have hA : Hid (lock2 s1 t i = { s1 with tp := [p, i] }) := by show _ = _; rw [lock2, if_pos hb, hp]; simp
            rw [hp] at cr
            clear hb hB hp
            go_wp2_with fail
            refine (verdict_two (HC1.out.only HK.out ?ho1) HK.out p i _ hpn hi ?hA ?hA1).mono ?_
            case ho1 => repeat (first | exact Only.refl _ _ | apply Only.drew | apply Only.drewN | apply Only.alloc)
            case hA => rw [World.cell?_alloc_at _ _ _ _ (by simp)]; rfl
            case hA1 => rw [World.cell?_alloc_at _ _ _ _ (by simp)]; rfl
            rintro e w2 ⟨bo, ba, rfl, hv, ho2⟩
            have ho : Only [] wc w2 := (by repeat (first | exact Only.refl _ _ | apply Only.drew | apply Only.drewN | apply Only.alloc) : Only [] wc _).trans ho2
            have hC2 : CkOk K S V1 w2 s1 := HC1.out.only HK.out ho
            have c4' : w2.cell? ⟨K.C, 8, none⟩ = some (V1 8) := hC2.C.cell 8 (by omega)
            have c5' : w2.cell? ⟨K.C, 9, none⟩ = some (V1 9) := hC2.C.cell 9 (by omega)
            have f6 := hC2.C.frozen 8
            have f7 := hC2.C.frozen 9
            have HV : Hid (VOk K S w2 (.slice (some ⟨bo, 0, none⟩) 2 2) (.slice (some ⟨ba, 0, none⟩) 2 2) [p, i]) := hv
            have HO : Hid (Only [] wc w2) := ho
            have HC : Hid (CkOk K S V1 w2 s1) := hC2
            clear hv ho hC2 ho2 cr c14
            go_wp2
            go_meet
            rw [hA.out]
            exact ⟨⟨_, HC.out.setV HK.out 8 (by omega) _ _ [p, i] HV.out⟩, HO1.out.trans (((HO.out.mono (by simp)).setCell (p := ⟨K.C, 8, none⟩) (by simp [Bk.wr]) _).setCell (p := ⟨K.C, 9, none⟩) (by simp [Bk.wr]) _)⟩
          · have hB : decide (s1.tp = [] ∧ 0 ≤ s1.rl t) = false := decide_eq_false hb
            rw [hB]
            have hA : Hid (lock2 s1 t i = s1) := by show _ = _; rw [lock2, if_neg hb]
            clear hb hB
            go_wp2
            go_meet
            rw [hA.out]
            exact ⟨⟨V1, HC1.out⟩, HO1.out⟩
        case rest =>
          clear HC1 HO1 c14 cr lC lR HR1
          have e2 := lock2_hd s1 t i
          have HD2 : Hid ((lock2 s1 t i).hd u = 0 ∨ (lock2 s1 t i).hd u = 1 ∨ (lock2 s1 t i).hd u = 2) := by rw [e2]; exact HD1.out
          clear e2 HD1
          generalize lock2 s1 t i = s2 at *
          obtain ⟨⟨V2, hC0⟩, ho0⟩ := hcut
          have HC1 : Hid (CkOk K S V2 wc s2) := hC0
          have HO1 : Hid (Only K.wr w wc) := ho0
          obtain ⟨c0, c1, c2, c4, c5, c6, c7, c8, c9, c10, c11, c14, o0, o1, o2, cu, ct, ch, cl, cr, fc, fh, fl, fr, lC, lO, lT, lU, lH, lL, lR⟩ := hC0.sp HK.out HA.out HKD.out
          have fhu := fh u
          have flu := fl u
          have n1 := HK.out.ne.cL.symm
          have n2 := HK.out.ne.hL.symm
          have hu' : (u : Int) < 9 := by omega
          clear hC0 ho0 c0 c1 c2 c4 c5 c6 c7 c8 c9 c14 o0 o1 o2 cu ct cr fc fh fl fr lC lO lT lU lH lL lR
          rcases HD2.out with hd | hd | hd
          · rw [hd] at ch
            have HS3 : Hid (lock4 (lock3 s2 u i) u 1 = { s2 with la := upd s2.la u i, hd := upd s2.hd u 1 }) := by show _ = _; rw [lock3, if_pos hd, lock4]; simp [hd]
            clear hd HD2
            go_wp2
            go_region
            go_wp2
            go_end0
            refine ⟨rfl, ?_⟩
            rw [HS1.out, HS3.out]
            have k1 := HC1.out.setL HK.out ((Only.refl _ _).setCell (p := ⟨K.L, u, none⟩) (by simp) _) (HC1.out.L.setI32 u hu i)
            have k2 := k1.setH HK.out (((Only.refl _ _).setCell (p := ⟨K.H, u, none⟩) (by simp) _).drew) (k1.H.setU8 u hu 1).drew
            exact ⟨⟨_, k2⟩, ((HO1.out.setCell (p := ⟨K.L, u, none⟩) (by simp [Bk.wr]) _).setCell (p := ⟨K.H, u, none⟩) (by simp [Bk.wr]) _).drew⟩
          · rw [hd] at ch
            have HS3 : Hid (lock4 (lock3 s2 u i) u 1 = { s2 with hd := upd s2.hd u 1 }) := by show _ = _; rw [lock3, if_neg (by omega), lock4]; simp [hd]
            clear hd HD2
            go_wp2
            go_region
            go_wp2
            go_end0
            refine ⟨rfl, ?_⟩
            rw [HS1.out, HS3.out]
            have k2 := HC1.out.setH HK.out (((Only.refl _ _).setCell (p := ⟨K.H, u, none⟩) (by simp) _).drew) (HC1.out.H.setU8 u hu 1).drew
            exact ⟨⟨_, k2⟩, (HO1.out.setCell (p := ⟨K.H, u, none⟩) (by simp [Bk.wr]) _).drew⟩
          · rw [hd] at ch
            have HS3 : Hid (lock4 (lock3 s2 u i) u 1 = { s2 with hd := upd s2.hd u 2 }) := by show _ = _; rw [lock3, if_neg (by omega), lock4]; simp [hd]
            clear hd HD2
            go_wp2
            go_region
            go_wp2
            go_end0
            refine ⟨rfl, ?_⟩
            rw [HS1.out, HS3.out]
            have k2 := HC1.out.setH HK.out (((Only.refl _ _).setCell (p := ⟨K.H, u, none⟩) (by simp) _).drew) (HC1.out.H.setU8 u hu 2).drew
            exact ⟨⟨_, k2⟩, (HO1.out.setCell (p := ⟨K.H, u, none⟩) (by simp [Bk.wr]) _).drew⟩

end Go.Proofs.Ybulkhwa

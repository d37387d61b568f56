import Derived.Test.YbulkhwaStepR
namespace Go.Proofs.Ybulkhwa
open Go.RowKit

set_option maxRecDepth 100000 in
set_option maxHeartbeats 1000000 in
theorem step_write {K : Bk} {S : Sch} {V : Nat → Value} {w : World} {s : St} (h : CkOk K S V w s) (hK : K.Ok) (i u t : Nat) (a : At K S i u t) (hkd : S.kd i = 119) :
    Calls Yba.prog 6 #[.pointer (some ⟨K.C, 0, none⟩), .int .i32 i] w fun e w' => e = .returned (.tuple #[]) ∧ Left K S (readS s u i 2) w w' := by
  have hi := a.hi
  have hu := a.hu
  have hn := hK.n
  have hi1 : (i : Int) < (K.n : Int) := by omega
  have HH : Hid (CkOk K S V w s) := h
  have HK : Hid K.Ok := hK
  obtain ⟨c0, c1, c2, c4, c5, c6, c7, c8, c9, c10, c11, c14, o0, o1, o2, cu, ct, ch, cl, cr, fc, fh, fl, fr, lC, lO, lT, lU, lH, lL, lR⟩ := h.sp hK a hkd
  clear h hK a hkd c4 c5 c8 c9 c11 c14 cl cr fl fr lL lR fh
  by_cases hwf : s.wf = []
  · obtain ⟨e6, e7⟩ := VOk.nil_of (hwf ▸ HH.out.vw)
    rw [e6] at c6
    rw [e7] at c7
    by_cases hlt : s.hd u < 2
    · have hst : Hid (readS s u i 2 = { s with wf := [i] }) := by show _ = _; rw [readS, if_pos ⟨hwf, hlt⟩]
      clear hwf e6 e7
      go_enter Yba.func6, Yba.ntmps6
      go_wp2_with fail
      go_quiet (fail)
      go_wp2_with fail
      refine (holds_any _ _ _ _ _).mono ?_
      rintro e w1 ⟨rfl, rfl⟩
      go_wp2_with fail
      refine (verdict_one (HH.out.only HK.out ?ho1) HK.out i _ hi ?hA).mono ?_
      case ho1 => repeat (first | exact Only.refl _ _ | apply Only.drew | apply Only.drewN | apply Only.alloc)
      case hA => rw [World.cell?_alloc_at _ _ _ _ (by simp)]; rfl
      rintro e w2 ⟨bo, ba, rfl, hv, ho2⟩
      have ho : Only [] w w2 := (by repeat (first | exact Only.refl _ _ | apply Only.drew | apply Only.drewN | apply Only.alloc) : Only [] w _).trans ho2
      have hC2 : CkOk K S V w2 s := HH.out.only HK.out ho
      have c6' : w2.cell? ⟨K.C, 6, none⟩ = some (V 6) := hC2.C.cell 6 (by omega)
      have c7' : w2.cell? ⟨K.C, 7, none⟩ = some (V 7) := hC2.C.cell 7 (by omega)
      have f6 := hC2.C.frozen 6
      have f7 := hC2.C.frozen 7
      have HV : Hid (VOk K S w2 (.slice (some ⟨bo, 0, none⟩) 1 1) (.slice (some ⟨ba, 0, none⟩) 1 1) [i]) := hv
      have HO : Hid (Only [] w w2) := ho
      have HC : Hid (CkOk K S V w2 s) := hC2
      clear hv ho hC2 ho2 c0 c1 c2 c6 c7 c10 o0 o1 o2 cu ct ch fc
      go_wp2
      go_end0
      refine ⟨rfl, ?_⟩
      rw [hst.out]
      exact ⟨⟨_, HC.out.setV HK.out 6 (by omega) _ _ [i] HV.out⟩, ((HO.out.mono (by simp)).setCell (p := ⟨K.C, 6, none⟩) (by simp [Bk.wr]) _).setCell (p := ⟨K.C, 7, none⟩) (by simp [Bk.wr]) _⟩
    · have hst : Hid (readS s u i 2 = s) := by show _ = _; rw [readS, if_neg (fun hc => hlt hc.2)]
      clear hwf e6 e7
      go_enter Yba.func6, Yba.ntmps6
      go_wp2_with fail
      go_quiet (fail)
      go_wp2_with fail
      refine (holds_any _ _ _ _ _).mono ?_
      rintro e w1 ⟨rfl, rfl⟩
      go_wp2
      go_end0
      refine ⟨rfl, ?_⟩
      rw [hst.out]
      exact Left.same HH.out HK.out (by repeat (first | exact Only.refl _ _ | apply Only.drew | apply Only.drewN | apply Only.alloc))
  · obtain ⟨x, l, c, y, e6, e7⟩ := VOk.some_of HH.out.vw hwf
    rw [e6] at c6
    have hst : Hid (readS s u i 2 = s) := by show _ = _; rw [readS, if_neg (fun hc => hwf hc.1)]
    clear hwf e6 e7
    go_enter Yba.func6, Yba.ntmps6
    go_wp2_with fail
    go_quiet (fail)
    go_wp2_with fail
    refine (holds_any _ _ _ _ _).mono ?_
    rintro e w1 ⟨rfl, rfl⟩
    go_wp2
    go_end0
    refine ⟨rfl, ?_⟩
    rw [hst.out]
    exact Left.same HH.out HK.out (by repeat (first | exact Only.refl _ _ | apply Only.drew | apply Only.drewN | apply Only.alloc))

set_option maxRecDepth 100000 in
set_option maxHeartbeats 1000000 in
theorem step_commit {K : Bk} {S : Sch} {V : Nat → Value} {w : World} {s : St} (h : CkOk K S V w s) (hK : K.Ok) (i : Nat) (hi : i < K.n) (hkd : S.kd i = 99) :
    Calls Yba.prog 6 #[.pointer (some ⟨K.C, 0, none⟩), .int .i32 i] w fun e w' => e = .returned (.tuple #[]) ∧ Left K S s w w' := by
  have hn := hK.n
  have hi1 : (i : Int) < (K.n : Int) := by omega
  have HH : Hid (CkOk K S V w s) := h
  have HK : Hid K.Ok := hK
  have c0 : w.cell? ⟨K.C, 0, none⟩ = some (.slice (some ⟨K.O, 0, none⟩) K.n K.n) := h.C.cell 0 (by omega)
  have c1 : w.cell? ⟨K.C, 1, none⟩ = some (.slice (some ⟨K.T, 0, none⟩) K.n K.n) := h.C.cell 1 (by omega)
  have c2 : w.cell? ⟨K.C, 2, none⟩ = some (.slice (some ⟨K.U, 0, none⟩) K.n K.n) := h.C.cell 2 (by omega)
  have o0 : w.cell? ⟨K.O, i * 3, none⟩ = some (.int .u8 99) := by rw [h.O.cell _ (by omega), opCells, if_pos (by omega), show i * 3 / 3 = i by omega, hkd]
  have o1 : w.cell? ⟨K.O, i * 3 + 1, none⟩ = some (.int .i64 (S.tx i)) := by rw [h.O.cell _ (by omega), opCells, if_neg (by omega), if_pos (by omega), show (i * 3 + 1) / 3 = i by omega]
  have o2 : w.cell? ⟨K.O, i * 3 + 2, none⟩ = some (.string (S.nm i)) := by rw [h.O.cell _ (by omega), opCells, if_neg (by omega), if_neg (by omega), show (i * 3 + 2) / 3 = i by omega]
  have cu : w.cell? ⟨K.U, i, none⟩ = some (.int .i32 (S.us i)) := h.U.cell i hi
  have ct : w.cell? ⟨K.T, i, none⟩ = some (.int .i32 (S.tn i)) := h.T.cell i hi
  have lC := hK.mem_lt h K.C (by simp [Bk.all])
  have lO := hK.mem_lt h K.O (by simp [Bk.all])
  have lT := hK.mem_lt h K.T (by simp [Bk.all])
  have lU := hK.mem_lt h K.U (by simp [Bk.all])
  clear h hK hkd
  go_enter Yba.func6, Yba.ntmps6
  go_wp2_with fail
  go_quiet (fail)
  go_wp2
  go_end0
  exact ⟨rfl, Left.same HH.out HK.out (by repeat (first | exact Only.refl _ _ | apply Only.drew | apply Only.drewN | apply Only.alloc))⟩

end Go.Proofs.Ybulkhwa

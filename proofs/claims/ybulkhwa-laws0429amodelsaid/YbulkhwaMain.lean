import Derived.Test.YbulkhwaLaw3
namespace Go.Proofs.Ybulkhwa
open Go.RowKit Go.Pool

set_option maxRecDepth 100000 in
set_option maxHeartbeats 16000000 in
theorem law_true (p : Option Addr) (b off n cap : Nat) (hp : 0 < n → p = some ⟨b, off, none⟩) (KK TT II : Nat → Nat) (w : World) (hst : StepsAt b off n KK TT II w) (hn : n ≤ 1024) :
    Calls Yba.prog 3 #[.slice p n cap] w fun e w' => e = .returned (.bool true) ∧ Only [] w w' := by
  have k23 := fun w => mk23 n w hn
  have k24 := fun w => mk24 n w hn
  have HST : Hid (StepsAt b off n KK TT II w) := hst
  clear hst
  go_enter Yba.func3, Yba.ntmps3
  go_upto_block 0 with fail
  go_cut [] (fun wx => Lp1 n n w.heap.size (mkS KK TT II) w wx)
  case first => as_aux_lemma =>
    clear k23 k24
    go_wp2_with fail
    go_loopw [8] (fun i wr => ∃ k : Nat, k ≤ n ∧ i = .int .i64 k ∧ Lp1 n k w.heap.size (mkS KK TT II) w wr) (fun i _ => n - (intOf i).toNat)
    case atStart => exact ⟨0, Nat.zero_le _, rfl, Lp1.start _ _ _⟩
    case round =>
      obtain ⟨k, hk, rfl, hl⟩ := hrel
      have HL : Hid (Lp1 n k w.heap.size (mkS KK TT II) w wr) := hl
      clear hl
      by_cases hlt : k < n
      · obtain rfl := hp (by omega)
        have hb := HST.out.lt (by omega)
        have a0 : wr.cell? ⟨b, off + k * 3, none⟩ = some (.int .u8 (KK k)) := (HL.out.only.cell (p := ⟨b, off + k * 3, none⟩) hb (by simp)).trans (HST.out.k k hlt)
        have a1 : wr.cell? ⟨b, off + k * 3 + 1, none⟩ = some (.int .u8 (TT k)) := (HL.out.only.cell (p := ⟨b, off + k * 3 + 1, none⟩) hb (by simp)).trans (HST.out.t k hlt)
        have a2 : wr.cell? ⟨b, off + k * 3 + 2, none⟩ = some (.int .u8 (II k)) := (HL.out.only.cell (p := ⟨b, off + k * 3 + 2, none⟩) hb (by simp)).trans (HST.out.i k hlt)
        obtain ⟨v0, o0⟩ := HL.out.o.any (k * 3) (by omega)
        obtain ⟨v1, o1⟩ := HL.out.o.any (k * 3 + 1) (by omega)
        obtain ⟨v2, o2⟩ := HL.out.o.any (k * 3 + 2) (by omega)
        obtain ⟨v3, o3⟩ := HL.out.t.any k hlt
        obtain ⟨v4, o4⟩ := HL.out.u.any k hlt
        have hsz := HL.out.size
        have f0 := HL.out.o.frozen
        have f1 := HL.out.t.frozen
        have f2 := HL.out.u.frozen
        have z0 : w.heap.size < wr.heap.size := by omega
        have z1 : w.heap.size + 1 < wr.heap.size := by omega
        have z2 : w.heap.size + 1 + 1 < wr.heap.size := by omega
        have k8 := HST.out.k8 k
        have hkn : (k : Int) < (n : Int) := by omega
        go_wp2_with fail
        refine (kind_any _ _ k8).mono ?_
        rintro e w1 ⟨rfl, rfl⟩
        have EK : Hid ((kindF (KK k) : Int) = (mkS KK TT II).kd k) := rfl
        obtain ⟨t, ht⟩ : ∃ t, t = TT k % 3 := ⟨_, rfl⟩
        obtain ⟨it, hit⟩ : ∃ it, it = II k % 3 := ⟨_, rfl⟩
        have et : (TT k : Int) % 3 = (t : Int) := by omega
        have ei : (II k : Int) % 3 = (it : Int) := by omega
        have HT : Hid (t = TT k % 3) := ht
        have HI : Hid (it = II k % 3) := hit
        have t3 : t < 3 := by omega
        have i3 : it < 3 := by omega
        clear ht hit
        obtain ⟨kk, hkk⟩ : ∃ kk, kk = kindF (KK k) := ⟨_, rfl⟩
        have HKK : Hid (kk = kindF (KK k)) := hkk
        rw [← hkk]
        clear hkk k8
        by_cases h99 : kk = 99
        · have HK9 : Hid ((mkS KK TT II).kd k = 99 ∧ (mkS KK TT II).nm k = ⟨#[]⟩ ∧ (mkS KK TT II).us k = -1) := by
            have e := HKK.out
            rw [h99] at e
            exact ⟨by show (kindF (KK k) : Int) = 99; rw [← e]; rfl, if_pos e.symm, if_pos e.symm⟩
          subst h99
          go_wp2
          go_roundw
          case rel =>
            refine ⟨k + 1, by omega, by go_num, ?_⟩
            refine (Lp1.step HL.out hlt (Nat.le_refl _) 99 t t (-1) ⟨#[]⟩ HK9.out.1.symm ?_ HK9.out.2.1.symm ?_ HK9.out.2.2.symm).alloc _
            · show (t : Int) = ((TT k % 3 : Nat) : Int)
              rw [← HT.out]
            · show (t : Int) = ((TT k % 3 : Nat) : Int)
              rw [← HT.out]
          case measure => simp [intOf]; omega
        · have e99 : ((kk : Int) == 99) = false := by simp; omega
          have HK9 : Hid ((mkS KK TT II).kd k = (kk : Int) ∧ (mkS KK TT II).nm k = nmOf it ∧ (mkS KK TT II).us k = (t : Int) * 3 + (it : Int)) := by
            have e := HKK.out
            have e' : ¬ kindF (KK k) = 99 := by rw [← e]; exact h99
            refine ⟨by show (kindF (KK k) : Int) = kk; rw [← e], ?_, ?_⟩
            · rw [HI.out]; exact if_neg e'
            · rw [HI.out, HT.out]
              refine (if_neg e').trans ?_
              push_cast; rfl
          clear h99
          go_wp2
          go_roundw
          case rel =>
            refine ⟨k + 1, by omega, by go_num, ?_⟩
            refine (Lp1.step HL.out hlt (Nat.le_refl _) kk t t ((t : Int) * 3 + (it : Int)) (nmOf it) HK9.out.1.symm ?_ HK9.out.2.1.symm ?_ HK9.out.2.2.symm).alloc _
            · show (t : Int) = ((TT k % 3 : Nat) : Int)
              rw [← HT.out]
            · show (t : Int) = ((TT k % 3 : Nat) : Int)
              rw [← HT.out]
          case measure => simp [intOf]; omega
      · go_wp2
        go_meet
        obtain rfl : k = n := by omega
        exact HL.out
  case rest =>
    have HL : Hid (Lp1 n n w.heap.size (mkS KK TT II) w wc) := hcut
    clear hcut k23 k24
    obtain ⟨wL, hwL⟩ : ∃ x, x = wc := ⟨_, rfl⟩
    subst hwL
    go_upto_region 21 with fail
    go_cut [13] (fun s13 wx => ∃ bl bc, s13 = .pointer (some ⟨bc, 0, none⟩) ∧ Made21 wL wx (.slice (some ⟨w.heap.size, 0, none⟩) n n) (.slice (some ⟨w.heap.size + 1, 0, none⟩) n n) (.slice (some ⟨w.heap.size + 1 + 1, 0, none⟩) n n) bl bc)
    case first => as_aux_lemma =>
      refine pool21 (some ⟨w.heap.size, 0, none⟩) (some ⟨w.heap.size + 1, 0, none⟩) (some ⟨w.heap.size + 1 + 1, 0, none⟩) n n n n n n (by kernel_rfl) (by kernel_rfl) (by kernel_rfl) (by kernel_rfl) rfl rfl rfl ?_
      intro x w' bl bc h
      obtain ⟨h13, hm⟩ := h.made
      clear h
      refine lay_of_moves (P := Yba.prog) (ops := (movesOf D21 x).toArray) x D21 _ _ ?_
      simp only [movesOf, D21, List.map_cons, List.map_nil]
      rw [h13]
      clear h13
      go_wp2_with fail
      go_meet
      exact ⟨bl, bc, rfl, hm⟩
    case rest =>
      obtain ⟨bl, bc, rfl, hm⟩ := hcut
      obtain ⟨K, rfl, hO, hT, hKn, env, V0, l2⟩ := Lp2.start hn HL.out hm
      have HE : Hid (Env K wc.heap.size (wc.heap.size + 1) (wc.heap.size + 1 + 1) w) := env
      have HL2 : Hid (Lp2 K (mkS KK TT II) wc.heap.size (wc.heap.size + 1) (wc.heap.size + 1 + 1) w (-1) (-1) (-1) (-1) s00 V0 (((wc.alloc (.cells C43 43)).alloc (.cells C45 45)).alloc (.cells C44 44))) := l2
      have HO : Hid (K.O = w.heap.size) := hO
      have HT : Hid (K.T = w.heap.size + 1) := hT
      have HN : Hid (K.n = n) := hKn
      clear hm HL env l2 hO hT hKn
      obtain ⟨wM, hwM⟩ : ∃ x, x = wc := ⟨_, rfl⟩
      subst hwM
      go_upto_block 2 with fail
      go_cut [17, 18, 19, 20] (fun s17 s18 s19 s20 wx => ∃ A B T1 T2 s V, s17 = .int .i32 A ∧ s18 = .int .i32 B ∧ s19 = .int .i32 T1 ∧ s20 = .int .i32 T2 ∧ Lp2 K (mkS KK TT II) wM.heap.size (wM.heap.size + 1) (wM.heap.size + 1 + 1) w A B T1 T2 s V wx)
      case first => as_aux_lemma =>
        go_wp2_with fail
        go_loopw [17, 18, 19, 20, 21] (fun s17 s18 s19 s20 i wr => ∃ (k : Nat) (A B T1 T2 : Int) (s : St) (V : Nat → Value), k ≤ n ∧ i = .int .i64 k ∧ s17 = .int .i32 A ∧ s18 = .int .i32 B ∧ s19 = .int .i32 T1 ∧ s20 = .int .i32 T2 ∧ Lp2 K (mkS KK TT II) wM.heap.size (wM.heap.size + 1) (wM.heap.size + 1 + 1) w A B T1 T2 s V wr) (fun _ _ _ _ i _ => n - (intOf i).toNat)
        case atStart => exact ⟨0, -1, -1, -1, -1, s00, V0, Nat.zero_le _, rfl, rfl, rfl, rfl, rfl, HL2.out⟩
        case round =>
          obtain ⟨k, A, B, T1, T2, s, V, hk, rfl, rfl, rfl, rfl, rfl, hl⟩ := hrel
          have HLL : Hid (Lp2 K (mkS KK TT II) wM.heap.size (wM.heap.size + 1) (wM.heap.size + 1 + 1) w A B T1 T2 s V wr) := hl
          clear hl HL2
          by_cases hlt : k < n
          · obtain rfl := hp (by omega)
            have hkn : (k : Int) < (n : Int) := by omega
            go_upto_block 3 with fail
            go_cut [17, 18, 19, 20] (fun s17 s18 s19 s20 wx => ∃ A' B' T1' T2' s' V', s17 = .int .i32 A' ∧ s18 = .int .i32 B' ∧ s19 = .int .i32 T1' ∧ s20 = .int .i32 T2' ∧ Lp2 K (mkS KK TT II) wM.heap.size (wM.heap.size + 1) (wM.heap.size + 1 + 1) w A' B' T1' T2' s' V' wx)
            case first =>
              go_wp2_with fail
              refine (step_any HLL.out.ck HE.out.ok HLL.out.good k (by rw [HN.out]; exact hlt)).mono ?_
              rintro e w1 ⟨rfl, hleft⟩
              have htab := HLL.out.tab.left HE.out HLL.out.ck.size hleft
              have hgood := good_step HLL.out.good (kindF (KK k)) (TT k % 3 * 3 + II k % 3) (TT k % 3) k (by omega) (by rw [HN.out]; exact hlt)
              obtain ⟨⟨V1, hck⟩, _⟩ := hleft
              have o0 : w1.cell? ⟨w.heap.size, k * 3, none⟩ = some (.int .u8 (kindF (KK k))) := by
                have := hck.O.cell (3 * k) (by rw [HN.out]; omega)
                rw [(opCells_at _ _).1, HO.out] at this
                rw [show k * 3 = 3 * k by omega]
                exact this
              have c1 : w1.cell? ⟨w.heap.size + 1, k, none⟩ = some (.int .i32 (TT k % 3 : Nat)) := by
                have := hck.T.cell k (by rw [HN.out]; omega)
                rw [HT.out] at this
                exact this
              have a2 : w1.cell? ⟨b, off + k * 3 + 2, none⟩ = some (.int .u8 (II k)) := (htab.only.cell (p := ⟨b, off + k * 3 + 2, none⟩) (HST.out.lt (by omega)) (by simp)).trans (HST.out.i k hlt)
              obtain ⟨t, ht⟩ : ∃ t, t = TT k % 3 := ⟨_, rfl⟩
              obtain ⟨it, hit⟩ : ∃ it, it = II k % 3 := ⟨_, rfl⟩
              have ei : (II k : Int) % 3 = (it : Int) := by omega
              have t3 : t < 3 := by omega
              have i3 : it < 3 := by omega
              obtain ⟨kk, hkk⟩ : ∃ kk, kk = kindF (KK k) := ⟨_, rfl⟩
              have HK7 := kind_cases (KK k)
              rw [← ht, ← hit, ← hkk] at hgood hck
              rw [← ht] at c1
              rw [← hkk] at o0 HK7
              have HC : Hid (CkOk K (mkS KK TT II) V1 w1 (stepS s kk (t * 3 + it) t k)) := hck
              have HG : Hid (Good K.n (stepS s kk (t * 3 + it) t k)) := hgood
              have HTB : Hid (Tab wM.heap.size (wM.heap.size + 1) (wM.heap.size + 1 + 1) w s w1) := htab
              have H7 : Hid (kk = 114 ∨ kk = 119 ∨ kk = 117 ∨ kk = 108 ∨ kk = 115 ∨ kk = 120 ∨ kk = 99) := HK7
              clear hck hgood htab ht hit hkk HK7
              go_upto_block 4 with fail
              clear o0 c1 a2 ei
              have cu : w1.cell? ⟨wM.heap.size, t * 3 + it, none⟩ = some (.int .u8 (s.hd (t * 3 + it))) := HTB.out.m1.cell _ (by omega)
              have cr : w1.cell? ⟨wM.heap.size + 1 + 1, t, none⟩ = some (.int .i32 (s.rl t)) := HTB.out.m3.cell _ (by omega)
              have fu := HTB.out.m1.frozen
              have fr := HTB.out.m3.frozen
              have hkN : Hid (k < K.n) := by show _ < _; rw [HN.out]; exact hlt
              have t3' : (t : Int) < 3 := by omega
              have i3' : (it : Int) < 3 := by omega
              rcases H7.out with rfl | rfl | rfl | hL
              · as_aux_lemma =>
                obtain ⟨h0, hh⟩ : ∃ h0, h0 = s.hd (t * 3 + it) := ⟨_, rfl⟩
                have HH : Hid (h0 = s.hd (t * 3 + it)) := hh
                rw [← hh] at cu
                clear hh cr fr
                by_cases hB : B < 0
                · by_cases hm : h0 < 1
                  · have HX : Hid (B < 0 ∧ h0 < 1) := ⟨hB, hm⟩
                    go_wp2
                    go_meet
                    exact ⟨_, _, _, _, _, _, rfl, rfl, rfl, rfl, HLL.out.read 1 _ k HC.out HG.out HTB.out hkN.out _ (by rw [if_pos (HH.out ▸ HX.out)])⟩
                  · have HX : Hid (¬ (B < 0 ∧ h0 < 1)) := fun x => hm x.2
                    have hm' := Int.not_lt.1 hm
                    clear hm
                    go_wp2
                    go_meet
                    exact ⟨_, _, _, _, _, _, rfl, rfl, rfl, rfl, HLL.out.read 1 _ k HC.out HG.out HTB.out hkN.out _ (by rw [if_neg (HH.out ▸ HX.out)])⟩
                · have HX : Hid (¬ (B < 0 ∧ h0 < 1)) := fun x => hB x.1
                  have hB' := Int.not_lt.1 hB
                  clear hB
                  go_wp2
                  go_meet
                  exact ⟨_, _, _, _, _, _, rfl, rfl, rfl, rfl, HLL.out.read 1 _ k HC.out HG.out HTB.out hkN.out _ (by rw [if_neg (HH.out ▸ HX.out)])⟩
              · as_aux_lemma =>
                obtain ⟨h0, hh⟩ : ∃ h0, h0 = s.hd (t * 3 + it) := ⟨_, rfl⟩
                have HH : Hid (h0 = s.hd (t * 3 + it)) := hh
                rw [← hh] at cu
                clear hh cr fr
                by_cases hB : B < 0
                · by_cases hm : h0 < 2
                  · have HX : Hid (B < 0 ∧ h0 < 2) := ⟨hB, hm⟩
                    go_wp2
                    go_meet
                    exact ⟨_, _, _, _, _, _, rfl, rfl, rfl, rfl, HLL.out.read 2 _ k HC.out HG.out HTB.out hkN.out _ (by rw [if_pos (HH.out ▸ HX.out)])⟩
                  · have HX : Hid (¬ (B < 0 ∧ h0 < 2)) := fun x => hm x.2
                    have hm' := Int.not_lt.1 hm
                    clear hm
                    go_wp2
                    go_meet
                    exact ⟨_, _, _, _, _, _, rfl, rfl, rfl, rfl, HLL.out.read 2 _ k HC.out HG.out HTB.out hkN.out _ (by rw [if_neg (HH.out ▸ HX.out)])⟩
                · have HX : Hid (¬ (B < 0 ∧ h0 < 2)) := fun x => hB x.1
                  have hB' := Int.not_lt.1 hB
                  clear hB
                  go_wp2
                  go_meet
                  exact ⟨_, _, _, _, _, _, rfl, rfl, rfl, rfl, HLL.out.read 2 _ k HC.out HG.out HTB.out hkN.out _ (by rw [if_neg (HH.out ▸ HX.out)])⟩
              · as_aux_lemma =>
                obtain ⟨h0, hh⟩ : ∃ h0, h0 = s.hd (t * 3 + it) := ⟨_, rfl⟩
                have HH : Hid (h0 = s.hd (t * 3 + it)) := hh
                rw [← hh] at cu
                obtain ⟨r0, hr0⟩ : ∃ r0, r0 = s.rl t := ⟨_, rfl⟩
                have HR : Hid (r0 = s.rl t) := hr0
                rw [← hr0] at cr
                have n31 : Hid (wM.heap.size + 1 + 1 ≠ wM.heap.size) := by show _ ≠ _; omega
                clear hh hr0
                by_cases hA : A < 0
                · by_cases hz : h0 = 0
                  · have X1 : Hid ((if A < 0 ∧ s.hd (t * 3 + it) = 0 then (k : Int) else A) = k) := if_pos ⟨hA, HH.out ▸ hz⟩
                    rw [hz] at cu
                    clear hz
                    by_cases hr : r0 < 0
                    · have X2 : Hid ((if s.rl t < 0 then w1.setCell ⟨wM.heap.size + 1 + 1, t, none⟩ (.int .i32 k) else w1) = w1.setCell ⟨wM.heap.size + 1 + 1, t, none⟩ (.int .i32 k)) := if_pos (HR.out ▸ hr)
                      go_wp2
                      go_meet
                      exact ⟨_, _, _, _, _, _, rfl, rfl, rfl, rfl, HLL.out.unl HE.out _ t k (by omega) t3 HC.out HG.out HTB.out hkN.out _ X1.out.symm _ (by rw [X2.out])⟩
                    · have X2 : Hid ((if s.rl t < 0 then w1.setCell ⟨wM.heap.size + 1 + 1, t, none⟩ (.int .i32 k) else w1) = w1) := if_neg (HR.out ▸ hr)
                      have hr' := Int.not_lt.1 hr
                      clear hr
                      go_wp2
                      go_meet
                      exact ⟨_, _, _, _, _, _, rfl, rfl, rfl, rfl, HLL.out.unl HE.out _ t k (by omega) t3 HC.out HG.out HTB.out hkN.out _ X1.out.symm _ (by rw [X2.out])⟩
                  · have X1 : Hid ((if A < 0 ∧ s.hd (t * 3 + it) = 0 then (k : Int) else A) = A) := if_neg (fun x => hz (HH.out ▸ x.2))
                    have ez : (h0 == 0) = false := by simp [hz]
                    clear hz
                    by_cases hr : r0 < 0
                    · have X2 : Hid ((if s.rl t < 0 then w1.setCell ⟨wM.heap.size + 1 + 1, t, none⟩ (.int .i32 k) else w1) = w1.setCell ⟨wM.heap.size + 1 + 1, t, none⟩ (.int .i32 k)) := if_pos (HR.out ▸ hr)
                      go_wp2
                      go_meet
                      exact ⟨_, _, _, _, _, _, rfl, rfl, rfl, rfl, HLL.out.unl HE.out _ t k (by omega) t3 HC.out HG.out HTB.out hkN.out _ X1.out.symm _ (by rw [X2.out])⟩
                    · have X2 : Hid ((if s.rl t < 0 then w1.setCell ⟨wM.heap.size + 1 + 1, t, none⟩ (.int .i32 k) else w1) = w1) := if_neg (HR.out ▸ hr)
                      have hr' := Int.not_lt.1 hr
                      clear hr
                      go_wp2
                      go_meet
                      exact ⟨_, _, _, _, _, _, rfl, rfl, rfl, rfl, HLL.out.unl HE.out _ t k (by omega) t3 HC.out HG.out HTB.out hkN.out _ X1.out.symm _ (by rw [X2.out])⟩
                · have X1 : Hid ((if A < 0 ∧ s.hd (t * 3 + it) = 0 then (k : Int) else A) = A) := if_neg (fun x => hA x.1)
                  have hA' := Int.not_lt.1 hA
                  clear hA
                  by_cases hr : r0 < 0
                  · have X2 : Hid ((if s.rl t < 0 then w1.setCell ⟨wM.heap.size + 1 + 1, t, none⟩ (.int .i32 k) else w1) = w1.setCell ⟨wM.heap.size + 1 + 1, t, none⟩ (.int .i32 k)) := if_pos (HR.out ▸ hr)
                    go_wp2
                    go_meet
                    exact ⟨_, _, _, _, _, _, rfl, rfl, rfl, rfl, HLL.out.unl HE.out _ t k (by omega) t3 HC.out HG.out HTB.out hkN.out _ X1.out.symm _ (by rw [X2.out])⟩
                  · have X2 : Hid ((if s.rl t < 0 then w1.setCell ⟨wM.heap.size + 1 + 1, t, none⟩ (.int .i32 k) else w1) = w1) := if_neg (HR.out ▸ hr)
                    have hr' := Int.not_lt.1 hr
                    clear hr
                    go_wp2
                    go_meet
                    exact ⟨_, _, _, _, _, _, rfl, rfl, rfl, rfl, HLL.out.unl HE.out _ t k (by omega) t3 HC.out HG.out HTB.out hkN.out _ X1.out.symm _ (by rw [X2.out])⟩
              · rcases (show (kk = 108 ∨ kk = 115 ∨ kk = 120) ∨ kk = 99 by omega) with hL3 | rfl
                · as_aux_lemma =>
                  clear hL
                  obtain ⟨want, hw, hst, hwk⟩ : ∃ want : Int, (want = 1 ∨ want = 2) ∧ stepS s kk (t * 3 + it) t k = lockS s (t * 3 + it) t k want ∧ ((kk = 115 ∧ want = 1) ∨ ((kk = 108 ∨ kk = 120) ∧ want = 2)) := by
                    rcases hL3 with rfl | rfl | rfl
                    · exact ⟨2, Or.inr rfl, rfl, Or.inr ⟨Or.inl rfl, rfl⟩⟩
                    · exact ⟨1, Or.inl rfl, rfl, Or.inl ⟨rfl, rfl⟩⟩
                    · exact ⟨2, Or.inr rfl, rfl, Or.inr ⟨Or.inr rfl, rfl⟩⟩
                  have HC' : Hid (CkOk K (mkS KK TT II) V1 w1 (lockS s (t * 3 + it) t k want)) := by show CkOk _ _ _ _ _; rw [← hst]; exact HC.out
                  have HG' : Hid (Good K.n (lockS s (t * 3 + it) t k want)) := by show Good _ _; rw [← hst]; exact HG.out
                  have HW : Hid (want = 1 ∨ want = 2) := hw
                  have HWK : Hid ((kk = 115 ∧ want = 1) ∨ ((kk = 108 ∨ kk = 120) ∧ want = 2)) := hwk
                  have HL3 : Hid (kk = 108 ∨ kk = 115 ∨ kk = 120) := hL3
                  have e114 : ((kk : Int) == 114) = false := by simp; omega
                  have e119 : ((kk : Int) == 119) = false := by simp; omega
                  have e117 : ((kk : Int) == 117) = false := by simp; omega
                  clear hst hw hwk hL3 HC HG H7
                  obtain ⟨h0, hh⟩ : ∃ h0, h0 = s.hd (t * 3 + it) := ⟨_, rfl⟩
                  have HH : Hid (h0 = s.hd (t * 3 + it)) := hh
                  rw [← hh] at cu
                  obtain ⟨r0, hr0⟩ : ∃ r0, r0 = s.rl t := ⟨_, rfl⟩
                  have HR : Hid (r0 = s.rl t) := hr0
                  rw [← hr0] at cr
                  have cl : w1.cell? ⟨wM.heap.size + 1, t * 3 + it, none⟩ = some (.int .i32 (s.la (t * 3 + it))) := HTB.out.m2.cell _ (by omega)
                  have fl := HTB.out.m2.frozen
                  clear hh hr0
                  go_upto_if 178 with fail
                  go_cut [178] (fun s178 wx => s178 = .bool true ∧ wx = w1)
                  case first => as_aux_lemma =>
                    rcases HL3.out with rfl | rfl | rfl
                    all_goals
                      clear e114 e119 e117
                      go_wp2
                      go_meet
                      exact ⟨rfl, rfl⟩
                  case rest =>
                    obtain ⟨rfl, rfl⟩ := hcut
                    clear e114 e119 e117
                    go_upto_if 183 with fail
                    go_cut [27] (fun s27 wx => s27 = .int .u8 want ∧ wx = wc)
                    case first => as_aux_lemma =>
                      rcases HWK.out with ⟨rfl, rfl⟩ | ⟨rfl | rfl, rfl⟩
                      all_goals
                        go_wp2
                        go_meet
                        exact ⟨rfl, rfl⟩
                    case rest =>
                      obtain ⟨rfl, rfl⟩ := hcut
                      clear HL3 HWK
                      go_upto_region 54 with fail
                      go_cut [192] (fun v wx => v = .bool (decide (A < 0) && !allowF s.hd t it want) ∧ wx = wc)
                      case first => as_aux_lemma =>
                        by_cases hA : A < 0
                        · have HX : Hid (A < 0) := hA
                          go_wp2_with fail
                          refine (allow_any _ t it s.hd want _ t3 i3 HTB.out.m1 (fun j hj => HLL.out.good.hd j hj) HW.out).mono ?_
                          rintro e w2 ⟨rfl, rfl⟩
                          generalize allowF s.hd t it want = g at *
                          go_wp2
                          go_meet
                          exact ⟨by simp [HX.out], rfl⟩
                        · have HX : Hid (¬ A < 0) := hA
                          have hA' := Int.not_lt.1 hA
                          clear hA
                          go_wp2
                          go_meet
                          exact ⟨by rw [decide_eq_false (p := A < 0) (by have := HX.out; omega)]; rfl, rfl⟩
                      case rest =>
                        obtain ⟨rfl, rfl⟩ := hcut
                        go_upto_if 192 with fail
                        go_cut [17] (fun v wx => v = .int .i32 (if A < 0 ∧ allowF s.hd t it want = false then (k : Int) else A) ∧ wx = wc)
                        case first => as_aux_lemma =>
                          cases hb : (decide (A < 0) && !allowF s.hd t it want) with
                          | true =>
                            have HX : Hid ((if A < 0 ∧ allowF s.hd t it want = false then (k : Int) else A) = k) := if_pos (by simpa using hb)
                            clear hb
                            go_wp2
                            go_meet
                            exact ⟨by rw [HX.out], rfl⟩
                          | false =>
                            have HX : Hid ((if A < 0 ∧ allowF s.hd t it want = false then (k : Int) else A) = A) := if_neg (fun x => by simp [x.1, x.2] at hb)
                            clear hb
                            go_wp2
                            go_meet
                            exact ⟨by rw [HX.out], rfl⟩
                        case rest =>
                          obtain ⟨rfl, rfl⟩ := hcut
                          generalize hA' : (if A < 0 ∧ allowF s.hd t it want = false then (k : Int) else A) = A'
                          have HA' : Hid ((if A < 0 ∧ allowF s.hd t it want = false then (k : Int) else A) = A') := hA'
                          clear hA'
                          go_upto_region 56 with fail
                          go_cut [201] (fun v wx => v = .bool (decide (T1 < 0) && decide (0 ≤ r0)) ∧ wx = wc)
                          case first => as_aux_lemma =>
                            by_cases hT : T1 < 0
                            · by_cases hr : 0 ≤ r0
                              · have HX : Hid (T1 < 0 ∧ 0 ≤ r0) := ⟨hT, hr⟩
                                go_wp2
                                go_meet
                                exact ⟨by simp [HX.out.1, HX.out.2], rfl⟩
                              · have HX : Hid (¬ 0 ≤ r0) := hr
                                have hr' := Int.not_le.1 hr
                                clear hr
                                go_wp2
                                go_meet
                                exact ⟨by rw [decide_eq_false (p := 0 ≤ r0) (by have := HX.out; omega), Bool.and_false], rfl⟩
                            · have HX : Hid (¬ T1 < 0) := hT
                              have hT' := Int.not_lt.1 hT
                              clear hT
                              go_wp2
                              go_meet
                              exact ⟨by rw [decide_eq_false (p := T1 < 0) (by have := HX.out; omega)]; rfl, rfl⟩
                          case rest =>
                            obtain ⟨rfl, rfl⟩ := hcut
                            go_upto_if 201 with fail
                            go_cut [19, 20] (fun v v2 wx => v = .int .i32 (if T1 < 0 ∧ 0 ≤ s.rl t then s.rl t else T1) ∧ v2 = .int .i32 (if T1 < 0 ∧ 0 ≤ s.rl t then (k : Int) else T2) ∧ wx = wc)
                            case first => as_aux_lemma =>
                              cases hb : (decide (T1 < 0) && decide (0 ≤ r0)) with
                              | true =>
                                have HX : Hid (T1 < 0 ∧ 0 ≤ s.rl t) := by
                                  have : T1 < 0 ∧ 0 ≤ r0 := by simpa using hb
                                  exact HR.out ▸ this
                                clear hb
                                go_wp2
                                go_meet
                                exact ⟨by rw [if_pos HX.out, HR.out], by rw [if_pos HX.out], rfl⟩
                              | false =>
                                have HX : Hid (¬ (T1 < 0 ∧ 0 ≤ s.rl t)) := by
                                  intro x
                                  rw [← HR.out] at x
                                  simp [x.1, x.2] at hb
                                clear hb
                                go_wp2
                                go_meet
                                exact ⟨by rw [if_neg HX.out], by rw [if_neg HX.out], rfl⟩
                            case rest =>
                              obtain ⟨rfl, rfl, rfl⟩ := hcut
                              generalize hT1' : (if T1 < 0 ∧ 0 ≤ s.rl t then s.rl t else T1) = T1'
                              generalize hT2' : (if T1 < 0 ∧ 0 ≤ s.rl t then (k : Int) else T2) = T2'
                              have HT1' : Hid ((if T1 < 0 ∧ 0 ≤ s.rl t then s.rl t else T1) = T1') := hT1'
                              have HT2' : Hid ((if T1 < 0 ∧ 0 ≤ s.rl t then (k : Int) else T2) = T2') := hT2'
                              clear hT1' hT2'
                              obtain ⟨w5, hw5⟩ : ∃ x, x = wc := ⟨_, rfl⟩
                              subst hw5
                              go_upto_if 211 with fail
                              go_cut [] (fun wx => wx = if s.hd (t * 3 + it) = 0 then w5.setCell ⟨wM.heap.size + 1, t * 3 + it, none⟩ (.int .i32 k) else w5)
                              case first => as_aux_lemma =>
                                by_cases hz : h0 = 0
                                · have HX : Hid (s.hd (t * 3 + it) = 0) := by show _ = _; rw [← HH.out]; exact hz
                                  have ez : (h0 == 0) = true := by simp [hz]
                                  clear hz
                                  go_wp2
                                  go_meet
                                  rw [if_pos HX.out]
                                · have HX : Hid (¬ s.hd (t * 3 + it) = 0) := by show ¬ _; rw [← HH.out]; exact hz
                                  have ez : (h0 == 0) = false := by simp [hz]
                                  clear hz
                                  go_wp2
                                  go_meet
                                  rw [if_neg HX.out]
                              case rest =>
                                have HW2 : Hid (wc = if s.hd (t * 3 + it) = 0 then w5.setCell ⟨wM.heap.size + 1, t * 3 + it, none⟩ (.int .i32 k) else w5) := hcut
                                have cu' : wc.cell? ⟨wM.heap.size, t * 3 + it, none⟩ = some (.int .u8 h0) := by
                                  rw [hcut]
                                  split
                                  · rw [World.cell?_setCell_other _ _ _ _ (by intro hx; injection hx; omega)]; exact cu
                                  · exact cu
                                have fu' : ∀ j, wc.frozen? ⟨wM.heap.size, j, none⟩ = false := fun j => by
                                  rw [hcut]
                                  split
                                  · rw [World.frozen?_setCell]; exact fu j
                                  · exact fu j
                                clear hcut cu fu cr fr cl fl
                                by_cases hq : h0 < want
                                · have HX : Hid (s.hd (t * 3 + it) < want) := by show _ < _; rw [← HH.out]; exact hq
                                  go_wp2
                                  go_meet
                                  exact ⟨_, _, _, _, _, V1, rfl, rfl, rfl, rfl, HLL.out.lock HE.out t it k want HW.out t3 i3 HC'.out HG'.out HTB.out hkN.out A' T1' T2' HA'.out.symm HT1'.out.symm HT2'.out.symm wc _ HW2.out (by rw [if_pos HX.out])⟩
                                · have HX : Hid (¬ s.hd (t * 3 + it) < want) := by show ¬ _; rw [← HH.out]; exact hq
                                  have hq' := Int.not_lt.1 hq
                                  clear hq
                                  go_wp2
                                  go_meet
                                  exact ⟨_, _, _, _, _, V1, rfl, rfl, rfl, rfl, HLL.out.lock HE.out t it k want HW.out t3 i3 HC'.out HG'.out HTB.out hkN.out A' T1' T2' HA'.out.symm HT1'.out.symm HT2'.out.symm wc _ HW2.out (by rw [if_neg (by have := HX.out; omega)])⟩
                · clear hL
                  go_wp2
                  go_meet
                  exact ⟨_, _, _, _, _, V1, rfl, rfl, rfl, rfl, HC.out, HG.out, HTB.out, HLL.out.lg, HLL.out.wf, HLL.out.tp⟩
            case rest =>
              obtain ⟨A', B', T1', T2', s', V', rfl, rfl, rfl, rfl, hl⟩ := hcut
              have HLX : Hid (Lp2 K (mkS KK TT II) wM.heap.size (wM.heap.size + 1) (wM.heap.size + 1 + 1) w A' B' T1' T2' s' V' wc) := hl
              clear hl HLL
              go_wp2
              go_roundw
              case rel => exact ⟨k + 1, A', B', T1', T2', s', V', by omega, by go_num, rfl, rfl, rfl, rfl, HLX.out⟩
              case measure => simp [intOf]; omega
          · go_wp2
            go_meet
            exact ⟨A, B, T1, T2, s, V, rfl, rfl, rfl, rfl, HLL.out⟩
      case rest =>
        obtain ⟨A, B, T1, T2, s, V, rfl, rfl, rfl, rfl, hl⟩ := hcut
        have HF : Hid (Lp2 K (mkS KK TT II) wM.heap.size (wM.heap.size + 1) (wM.heap.size + 1 + 1) w A B T1 T2 s V wc) := hl
        clear HL2
        have c4 : wc.cell? ⟨K.C, 4, none⟩ = some (V 4) := hl.ck.C.cell 4 (by omega)
        have c5 : wc.cell? ⟨K.C, 5, none⟩ = some (V 5) := hl.ck.C.cell 5 (by omega)
        clear hl
        go_wp2_with fail
        refine (averd_one HF.out.ck.vl HF.out.lg HF.out.ck.O HE.out.ok.n _ _ HO.out HN.out).mono ?_
        rintro e w2 ⟨rfl, ho2⟩
        have ck2 := HF.out.ck.only HE.out.ok ho2
        have HCK2 : Hid (CkOk K (mkS KK TT II) V w2 s) := ck2
        have HO2 : Hid (Only [] wc w2) := ho2
        have c6 : w2.cell? ⟨K.C, 6, none⟩ = some (V 6) := ck2.C.cell 6 (by omega)
        have c7 : w2.cell? ⟨K.C, 7, none⟩ = some (V 7) := ck2.C.cell 7 (by omega)
        clear c4 c5 ck2 ho2
        go_wp2_with fail
        refine (averd_one HCK2.out.vw HF.out.wf HCK2.out.O HE.out.ok.n _ _ HO.out HN.out).mono ?_
        rintro e w3 ⟨rfl, ho3⟩
        have ck3 := HCK2.out.only HE.out.ok ho3
        have HCK3 : Hid (CkOk K (mkS KK TT II) V w3 s) := ck3
        have HO3 : Hid (Only [] wc w3) := HO2.out.trans ho3
        have c8 : w3.cell? ⟨K.C, 8, none⟩ = some (V 8) := ck3.C.cell 8 (by omega)
        have c9 : w3.cell? ⟨K.C, 9, none⟩ = some (V 9) := ck3.C.cell 9 (by omega)
        clear c6 c7 ck3 ho3 HCK2 HO2
        go_wp2_with fail
        refine (averd_two HCK3.out.vt HF.out.tp HCK3.out.O HE.out.ok.n _ _ HO.out HN.out).mono ?_
        rintro e w4 ⟨rfl, ho4⟩
        have HO4 : Hid (Only [] w w4) := HF.out.tab.only.trans (HO3.out.trans ho4)
        have HFI : Hid (Fin9 K wM.heap.size (wM.heap.size + 1) (wM.heap.size + 1 + 1) s w4) := HF.out.fin HE.out (HO3.out.trans ho4)
        clear c8 c9 ho4 HCK3 HO3 HF HE
        go_wp2
        go_loopw [28] (fun i wr => ∃ k q : Nat, k ≤ 9 ∧ i = .int .i64 k ∧ wr = w4.drewN q) (fun i _ => 9 - (intOf i).toNat)
        case atStart => exact ⟨0, 0, Nat.zero_le _, rfl, rfl⟩
        case round =>
          obtain ⟨k, q, hk, rfl, hwr⟩ := hrel
          have HWR : Hid (wr = w4.drewN q) := hwr
          by_cases hlt : k < 9
          · as_aux_lemma =>
            have h10 : wr.cell? ⟨K.C, 10, none⟩ = some (.slice (some ⟨K.H, 0, none⟩) 9 9) := by rw [hwr]; exact HFI.out.h10
            have h11 : wr.cell? ⟨K.C, 11, none⟩ = some (.slice (some ⟨K.L, 0, none⟩) 9 9) := by rw [hwr]; exact HFI.out.h11
            have x1 : wr.cell? ⟨K.H, k, none⟩ = some (.int .u8 (s.hd k)) := by rw [hwr]; exact HFI.out.H k hlt
            have x2 : wr.cell? ⟨K.L, k, none⟩ = some (.int .i32 (s.la k)) := by rw [hwr]; exact HFI.out.L k hlt
            obtain ⟨t, ht⟩ : ∃ t, t = k / 3 := ⟨_, rfl⟩
            obtain ⟨it, hit⟩ : ∃ it, it = k % 3 := ⟨_, rfl⟩
            have ek : t * 3 + it = k := by omega
            have x3 : wr.cell? ⟨wM.heap.size, t * 3 + it, none⟩ = some (.int .u8 (s.hd k)) := by rw [hwr, ek]; exact HFI.out.m1 k hlt
            have x4 : wr.cell? ⟨wM.heap.size + 1, t * 3 + it, none⟩ = some (.int .i32 (s.la k)) := by rw [hwr, ek]; exact HFI.out.m2 k hlt
            have et : (k : Int) / 3 = (t : Int) := by omega
            have ei : (k : Int) % 3 = (it : Int) := by omega
            have et' : (k : Int).tdiv 3 = (t : Int) := by rw [Int.tdiv_eq_ediv_of_nonneg (by omega)]; exact et
            have ei' : (k : Int).tmod 3 = (it : Int) := by rw [Int.tmod_eq_emod_of_nonneg (by omega)]; exact ei
            have t3 : (t : Int) < 3 := by omega
            have i3 : (it : Int) < 3 := by omega
            have k9 : (k : Int) < 9 := by omega
            have hg : (s.hd k != s.hd k) = false := by simp
            have hg2 : (s.la k != s.la k) = false := by simp
            generalize s.hd k = hv at *
            generalize s.la k = lv at *
            clear hwr ht hit ek
            go_wp2_with fail
            go_quiet (fail)
            go_wp2
            go_roundw
            case rel => exact ⟨k + 1, _, by omega, by go_num, by rw [HWR.out, World.drewN_drewN]⟩
            case measure => simp [intOf]; omega
          · clear hwr
            go_wp2
            go_loopw [29] (fun i wr' => ∃ k q : Nat, k ≤ 3 ∧ i = .int .i64 k ∧ wr' = w4.drewN q) (fun i _ => 3 - (intOf i).toNat)
            case atStart => exact ⟨0, q, Nat.zero_le _, rfl, HWR.out⟩
            case round =>
              obtain ⟨j, q', hj, rfl, hwr'⟩ := hrel
              have HWQ : Hid (wr = w4.drewN q') := hwr'
              by_cases hjt : j < 3
              · have h14 : wr.cell? ⟨K.C, 14, none⟩ = some (.slice (some ⟨K.R, 0, none⟩) 3 3) := by rw [hwr']; exact HFI.out.h14
                have x1 : wr.cell? ⟨K.R, j, none⟩ = some (.int .i32 (s.rl j)) := by rw [hwr']; exact HFI.out.R j hjt
                have x2 : wr.cell? ⟨wM.heap.size + 1 + 1, j, none⟩ = some (.int .i32 (s.rl j)) := by rw [hwr']; exact HFI.out.m3 j hjt
                have j3 : (j : Int) < 3 := by omega
                have hg : (s.rl j != s.rl j) = false := by simp
                generalize s.rl j = rv at *
                clear hwr'
                go_wp2_with fail
                go_quiet (fail)
                go_wp2
                go_roundw
                case rel => exact ⟨j + 1, _, by omega, by go_num, by rw [HWQ.out, World.drewN_drewN]⟩
                case measure => simp [intOf]; omega
              · clear hwr'
                go_wp2
                go_ret
                exact ⟨rfl, by rw [HWQ.out]; exact HO4.out.drewN _⟩

end Go.Proofs.Ybulkhwa

import Derived.Test.YbulkhwaL8
namespace Go.Proofs.Ybulkhwa
open Go.RowKit Go.Pool

set_option maxRecDepth 100000 in
set_option maxHeartbeats 16000000 in
theorem law4_true (n tS lS : Nat) (hn8 : n < 256) (ht8 : tS < 256) (hl8 : lS < 256) (p : Option Addr) (b off hn hc : Nat) (hp : 0 < hn → p = some ⟨b, off, none⟩) (LL VV : Nat → Nat) (lvl : Bool) (lv iv : Nat) (hlv : lv < 256) (hiv : iv < 256) (wm : Bool) (sT sU : Nat) (hsT : sT < 65536) (hsU : sU < 65536) (pre fr : Bool) (hn1 : hn ≤ 1024) (w : World) (hhs : HsAt b off hn LL VV w) :
    Calls Yba.prog 4 #[.int .u8 n, .int .u8 tS, .int .u8 lS, .slice p hn hc, .bool lvl, .int .u8 lv, .int .u8 iv, .bool wm, .int .u16 sT, .int .u16 sU, .bool pre, .bool fr] w fun e w' => e = .returned (.bool true) ∧ Only [] w w' := by
  have HHS : Hid (HsAt b off hn LL VV w) := hhs
  have HP : Hid (0 < hn → p = some ⟨b, off, none⟩) := hp
  clear hhs hp
  go_enter Yba.func4, Yba.ntmps4
  go_upto_region 6 with fail
  obtain ⟨N, hN⟩ : ∃ N : Nat, (n : Int) % 4 + 1 = (N : Int) := ⟨n % 4 + 1, by omega⟩
  obtain ⟨t, ht⟩ : ∃ t : Nat, (tS : Int) % (N : Int) = (t : Int) := ⟨tS % N, by omega⟩
  obtain ⟨left, hleft⟩ : ∃ l : Int, (lS : Int) % 3 - 1 = l := ⟨_, rfl⟩
  rw [hN, ht, hleft]
  have hN1 : 1 ≤ N := by omega
  have hN4 : N ≤ 4 := by omega
  have htN : t < N := by
    have : t = tS % N := by omega
    rw [this]; exact Nat.mod_lt _ (by omega)
  have hl1 : -1 ≤ left := by omega
  have hl2 : left ≤ 1 := by omega
  clear hN ht hleft hn8 ht8 hl8
  have m23 := fun w => mkI23 N w (by omega)
  have m34 := fun w => mkI34 N w (by omega)
  have m24 := fun w => mkI24 N w (by omega)
  have m24s := fun w => mkI24s N w (by omega)
  go_upto_block 0 with fail
  have HT0 : Hid (T7 N w.heap.size w fr (fill7 0) _) := T7.start N w fr
  simp only [Nat.add_assoc, Nat.reduceAdd]
  obtain ⟨n0, hn0⟩ : ∃ x, x = w.heap.size := ⟨_, rfl⟩
  rw [← hn0] at HT0 ⊢
  obtain ⟨wl, hwl⟩ : ∃ x, x = ((((((((w.alloc (.cells #[.bool fr] 4)).alloc (.cells (opZ N) 30)).alloc (.cells (i64Z N) 3)).alloc (.cells (i32Z N) 21)).alloc (.cells (i32Z N) 21)).alloc (.cells (i32Z N) 21)).alloc (.cells (i32Z (N + 1)) 21)).alloc (.cells (i32Z N) 21)) := ⟨_, rfl⟩
  rw [← hwl] at HT0 ⊢
  have HN0 : Hid (n0 = w.heap.size) := hn0
  clear hwl hn0 m23 m34 m24s
  go_cut [] (fun wx => T7 N n0 w fr (fill7 N) wx)
  case first =>
    clear m24
    go_wp2_with fail
    go_loopw [35] (fun i wr => ∃ k : Nat, k ≤ N ∧ i = .int .i32 k ∧ T7 N n0 w fr (fill7 k) wr) (fun i _ => N - (intOf i).toNat)
    case atStart => exact ⟨0, Nat.zero_le _, rfl, HT0.out⟩
    case round =>
      obtain ⟨k, hk, rfl, hT⟩ := hrel
      have HT : Hid (T7 N n0 w fr (fill7 k) wr) := hT
      by_cases hlt : k < N
      · have HK : Hid (k < N) := hlt
        have hkN : (k : Int) < (N : Int) := by omega
        obtain ⟨v0, o0⟩ := (hT.row 1 (by omega) (by omega)).any (k * 3) (by simp [len7]; omega)
        obtain ⟨v1, o1⟩ := (hT.row 1 (by omega) (by omega)).any (k * 3 + 1) (by simp [len7]; omega)
        obtain ⟨v2, o2⟩ := (hT.row 1 (by omega) (by omega)).any (k * 3 + 2) (by simp [len7]; omega)
        obtain ⟨v3, o3⟩ := (hT.row 2 (by omega) (by omega)).any k (by simp [len7]; omega)
        obtain ⟨v4, o4⟩ := (hT.row 3 (by omega) (by omega)).any k (by simp [len7]; omega)
        obtain ⟨v5, o5⟩ := (hT.row 4 (by omega) (by omega)).any k (by simp [len7]; omega)
        obtain ⟨v6, o6⟩ := (hT.row 5 (by omega) (by omega)).any k (by simp [len7]; omega)
        obtain ⟨v7, o7⟩ := (hT.row 6 (by omega) (by omega)).any (k + 1) (by simp [len7]; omega)
        obtain ⟨v8, o8⟩ := (hT.row 7 (by omega) (by omega)).any k (by simp [len7]; omega)
        have f1 := (hT.row 1 (by omega) (by omega)).frozen
        have f2 := (hT.row 2 (by omega) (by omega)).frozen
        have f3 := (hT.row 3 (by omega) (by omega)).frozen
        have f4 := (hT.row 4 (by omega) (by omega)).frozen
        have f5 := (hT.row 5 (by omega) (by omega)).frozen
        have f6 := (hT.row 6 (by omega) (by omega)).frozen
        have f7 := (hT.row 7 (by omega) (by omega)).frozen
        clear hT
        go_wp2
        go_roundw
        case rel => exact ⟨k + 1, HK.out, by go_num, HT.out.step HN0.out HK.out⟩
        case measure => have := HK.out; simp [intOf]; omega
      · go_wp2
        go_meet
        obtain rfl : k = N := by omega
        exact HT.out
  case rest =>
    have HT7 : Hid (T7 N n0 w fr (fill7 N) wc) := hcut
    have hsz : wc.heap.size = n0 + 8 := hcut.size
    clear hcut HT0
    obtain ⟨wL, hwL⟩ : ∃ x, x = wc := ⟨_, rfl⟩
    subst hwL
    go_upto_region 24 with fail
    obtain ⟨h8, c8, f8⟩ := HT7.out.t8 (sT := sT) HN0.out htN
    have HT8 : Hid (T8 N n0 t sT w fr ((wL.alloc (.cells (i32Z N) 21)).setCell ⟨n0 + 8, t, none⟩ (.int .i32 sT))) := h8
    obtain ⟨w7, hw7⟩ : ∃ x, x = wL.alloc (.cells (i32Z N) 21) := ⟨_, rfl⟩
    rw [← hw7] at HT8 c8 f8 ⊢
    clear hw7 h8 hsz HT7 m24
    go_upto_region 26 with fail
    obtain ⟨u, hu⟩ : ∃ u : Nat, ((t : Int) + 1) % (N : Int) = (u : Int) := ⟨(t + 1) % N, by simp⟩
    have huE : u = (t + 1) % N := by
      have : (u : Int) = (((t + 1) % N : Nat) : Int) := by rw [← hu]; simp
      exact Int.ofNat.inj this
    have huN : u < N := by rw [huE]; exact Nat.mod_lt _ (by omega)
    have HU : Hid (u = (t + 1) % N) := huE
    clear huE
    rw [hu]
    obtain ⟨w8, hw8⟩ : ∃ x, x = w7.setCell ⟨n0 + 8, t, none⟩ (.int .i32 sT) := ⟨_, rfl⟩
    rw [← hw8] at HT8 ⊢
    clear hw8 hu c8 f8
    go_cut [38] from 152 to 159 (fun s wx => s = .bool (wm && decide (2 ≤ N) && lvl) ∧ wx = w8)
    case first =>
      cases wm
      · go_wp2
        go_meet
        exact ⟨rfl, rfl⟩
      · by_cases h2 : 2 ≤ N
        · have h2' : (2 : Int) ≤ (N : Int) := by omega
          have hd : decide ((2 : Int) ≤ (N : Int)) = true := by simp; omega
          have HD : Hid (decide (2 ≤ N) = true) := by show decide (2 ≤ N) = true; simp; omega
          go_wp2
          go_meet
          exact ⟨by rw [HD.out]; rfl, rfl⟩
        · have h2' : (N : Int) < (2 : Int) := by omega
          have hd : decide ((2 : Int) ≤ (N : Int)) = false := by simp; omega
          have HD : Hid (decide (2 ≤ N) = false) := by show decide (2 ≤ N) = false; simp; omega
          go_wp2
          go_meet
          exact ⟨by rw [HD.out]; rfl, rfl⟩
    case rest =>
      obtain ⟨rfl, rfl⟩ := hcut
      obtain ⟨w9, hw9⟩ : ∃ x, x = wc := ⟨_, rfl⟩
      subst hw9
      obtain ⟨mem, hmem⟩ : ∃ x, x = (wm && decide (2 ≤ N) && lvl) := ⟨_, rfl⟩
      rw [← hmem]
      have HM : Hid (mem = (wm && decide (2 ≤ N) && lvl)) := hmem
      clear hmem
      have L0 : Hid (∀ k, lockOf N LL k = lockOf N LL k) := fun _ => rfl
      obtain ⟨L, hL⟩ : ∃ L, L = lockOf N LL := ⟨_, rfl⟩
      have HL : Hid (L = lockOf N LL) := hL
      clear hL L0
      go_upto_block 2 with fail
      go_cut [39, 40] from 162 to 187 (fun s39 s40 wx => s40 = .int .i32 (cntTo L hn) ∧ Only [] w9 wx ∧ wx.ownsRow w9.heap.size 58 2 s39 hn (hcells L VV hn))
      case first =>
        go_wp2_with fail
        go_loopw [162, 39, 40] (fun i s39 s40 wr => ∃ k : Nat, k ≤ hn ∧ i = .int .i64 k ∧ s40 = .int .i32 (cntTo L k) ∧ Only [] w9 wr ∧ wr.ownsRow w9.heap.size 58 2 s39 k (hcells L VV k)) (fun i _ _ _ => hn - (intOf i).toNat)
        case atStart => exact ⟨0, Nat.zero_le _, rfl, rfl, Only.refl _ _, World.ownsRow_nil _ _ _ _⟩
        case round =>
          obtain ⟨k, hk, rfl, rfl, hO, hR⟩ := hrel
          have HO : Hid (Only [] w9 wr) := hO
          have HR : Hid (wr.ownsRow w9.heap.size 58 2 u39 k (hcells L VV k)) := hR
          clear hO hR
          by_cases hlt : k < hn
          · have HK : Hid (k < hn) := hlt
            have hkn : (k : Int) < (hn : Int) := by omega
            obtain rfl := HP.out (by omega)
            have hb := HHS.out.lt (by omega)
            have o9 : Only [] w wr := HT8.out.only.trans HO.out
            have a0 : wr.cell? ⟨b, off + k * 2, none⟩ = some (.int .u8 (LL k)) := (o9.cell (p := ⟨b, off + k * 2, none⟩) hb (by simp)).trans (HHS.out.l k hlt)
            have a1 : wr.cell? ⟨b, off + k * 2 + 1, none⟩ = some (.int .u8 (VV k)) := (o9.cell (p := ⟨b, off + k * 2 + 1, none⟩) hb (by simp)).trans (HHS.out.v k hlt)
            have l8 := HHS.out.l8 k
            have v8 := HHS.out.v8 k
            obtain ⟨lk, hlk⟩ : ∃ x, x = LL k := ⟨_, rfl⟩
            obtain ⟨vk, hvk⟩ : ∃ x, x = VV k := ⟨_, rfl⟩
            rw [← hlk] at a0 l8
            rw [← hvk] at a1 v8
            have HLK : Hid (lk = LL k) := hlk
            have HVK : Hid (vk = VV k) := hvk
            clear hlk hvk hb o9
            have hcb : cntTo L k ≤ 1024 := by have := cntTo_le L k; omega
            obtain ⟨cn, hcn⟩ : ∃ x, x = cntTo L k := ⟨_, rfl⟩
            rw [← hcn] at hcb ⊢
            have HCN : Hid (cn = cntTo L k) := hcn
            clear hcn
            go_upto_if 174 with fail
            obtain ⟨l, hl⟩ : ∃ l : Nat, (lk : Int) % ((N : Int) + 1) = (l : Int) := ⟨lk % (N + 1), by simp⟩
            have hl2 : l = lk % (N + 1) := by
              have : (l : Int) = ((lk % (N + 1) : Nat) : Int) := by rw [← hl]; simp
              exact Int.ofNat.inj this
            rw [hl]
            obtain ⟨Lk, hLk⟩ : ∃ x, x = L k := ⟨_, rfl⟩
            have HLk : Hid (Lk = L k) := hLk
            have hLe : Lk = if l = N then -1 else (l : Int) := by rw [hLk, HL.out, lockOf, ← HLK.out, ← hl2]
            have hLb : -1 ≤ Lk ∧ Lk < N := by rw [hLk, HL.out]; exact lockOf_b N LL k
            have HLE : Hid (Lk = if l = N then -1 else (l : Int)) := hLe
            have hlN : l ≤ N := by
              have := Nat.mod_lt lk (show 0 < N + 1 by omega)
              omega
            obtain ⟨w1, hw1⟩ : ∃ x, x = wr.alloc (.cells #[.int .u8 lk, .int .u8 vk] 55) := ⟨_, rfl⟩
            obtain ⟨bx, hbx⟩ : ∃ x, x = wr.heap.size := ⟨_, rfl⟩
            have b1 : w1.cell? ⟨bx, 1, none⟩ = some (.int .u8 vk) := by rw [hw1, hbx, World.cell?_alloc_new]; rfl
            have HO1 : Hid (Only [] w9 w1) := by show Only [] w9 w1; rw [hw1]; exact HO.out.alloc _
            have HR1 : Hid (w1.ownsRow w9.heap.size 58 2 u39 k (hcells L VV k)) := by show w1.ownsRow _ _ _ _ _ _; rw [hw1]; exact HR.out.alloc _
            rw [← hw1, ← hbx]
            clear hw1 hbx hl hl2 hLk hLe HO HR a0 a1 l8
            go_cut [43] from 164 to 174 (fun s wx => s = .int .i32 Lk ∧ wx = w1)
            case first =>
              by_cases e : l = N
              · have hb : ((l : Int) == (N : Int)) = true := by simp [e]
                have HB : Hid (Lk = -1) := by show Lk = -1; rw [HLE.out, if_pos e]
                go_wp2
                go_meet
                exact ⟨by rw [HB.out], rfl⟩
              · have hb : ((l : Int) == (N : Int)) = false := by simp; omega
                have HB : Hid (Lk = (l : Int)) := by show Lk = (l : Int); rw [HLE.out, if_neg e]
                go_wp2
                go_meet
                exact ⟨by rw [HB.out], rfl⟩
            case rest =>
              obtain ⟨rfl, rfl⟩ := hcut
              obtain ⟨w1, hw1⟩ : ∃ x, x = wc := ⟨_, rfl⟩
              subst hw1
              obtain ⟨i0, hi, hz0, hz1, hz2⟩ := info_parts info58
              obtain ⟨v', w2, hr, ho2, hg2, _⟩ := run_append_own (P := Yba.prog) (w := w1.alloc (.cells #[.int .i32 Lk, .int .u32 vk] 58)) w9.heap.size 53 53 58 i0 _ 2 8 Yba.underlying53 hi hz0 hz1 hz2 rfl (by decide) u39 k (hcells L VV k) (HR1.out.alloc _) ⟨w1.heap.size, 0, none⟩ 1 1 [.int .i32 Lk, .int .u32 vk] rfl
                (fun j u hj => by
                  rw [Go.WideShapes.add_plain, World.cell?_alloc_at _ _ _ _ (by simp)]
                  simpa using hj)
                (fun u hu => by simp at hu; rcases hu with rfl | rfl <;> rfl) (by unfold maxLen; omega) (by omega) (by have := HO1.out.size; simp; omega)
              have HAR : Hid ((Builtin.append_ #[53, 53] 53 #[u39, .slice (some ⟨w1.heap.size, 0, none⟩) 1 1]).run Yba.prog (w1.alloc (.cells #[.int .i32 Lk, .int .u32 vk] 58)) = .ok v' w2) := hr
              obtain ⟨vp, vc, rfl⟩ := own_slice ho2
              have HO2 : Hid (Only [] w9 w2) := by
                refine ⟨hg2.os.trans HO1.out.os, hg2.tape.trans HO1.out.tape, hg2.output.trans HO1.out.output, ?_, fun x hx _ => ?_⟩
                · have h1 := hg2.size
                  have h2 := HO1.out.size
                  simp at h1
                  omega
                · have h2 := HO1.out.size
                  rw [hg2.block x (by simp; omega) (fun e => by have := HR1.out.lt x e.symm; omega)]
                  exact (Below.heap_alloc _ _ _ (by omega)).trans (HO1.out.block x hx (by simp))
              have HR2 : Hid (w2.ownsRow w9.heap.size 58 2 (.slice vp (k + 1) vc) (k + 1) (hcells L VV (k + 1))) := by
                show w2.ownsRow _ _ _ _ _ _
                rw [hcells, ← HLk.out, ← HVK.out]
                exact ho2
              clear hr ho2 hg2 hi hz0 hz1 hz2
              go_upto_if 184 with (at_builtin; refine wpList_append_run rfl _ _ 53 rfl _ _ (.slice vp (k + 1) vc) w2 rfl rfl HAR.out ?_)
              by_cases h0 : 0 ≤ Lk
              · have HC : Hid (cntTo L (k + 1) = cn + 1) := by
                  show cntTo L (k + 1) = cn + 1
                  rw [cntTo, ← HLk.out, if_pos h0, ← HCN.out]
                have hd : decide (0 ≤ Lk) = true := by simp; omega
                go_wp2
                go_roundw
                case rel => exact ⟨k + 1, HK.out, by go_num, by rw [HC.out]; rfl, HO2.out, HR2.out⟩
                case measure => have := HK.out; simp [intOf]; omega
              · have HC : Hid (cntTo L (k + 1) = cn) := by
                  show cntTo L (k + 1) = cn
                  rw [cntTo, ← HLk.out, if_neg h0, ← HCN.out, Nat.add_zero]
                have hd : decide (0 ≤ Lk) = false := by simp; omega
                go_wp2
                go_roundw
                case rel => exact ⟨k + 1, HK.out, by go_num, by rw [HC.out], HO2.out, HR2.out⟩
                case measure => have := HK.out; simp [intOf]; omega
          · go_wp2
            go_meet
            obtain rfl : k = hn := by omega
            exact ⟨rfl, HO.out, HR.out⟩
      case rest =>
        obtain ⟨rfl, hO, hR⟩ := hcut
        obtain ⟨wB, hwB⟩ : ∃ x, x = wc := ⟨_, rfl⟩
        subst hwB
        obtain ⟨hp, hc2, rfl⟩ := own_slice hR
        have HTB : Hid (T8 N n0 t sT w fr wB) := HT8.out.only' hO
        have HRB : Hid (wB.ownsRow w9.heap.size 58 2 (.slice hp hn hc2) hn (hcells L VV hn)) := hR
        have HS9 : Hid (n0 + 9 ≤ w9.heap.size) := HT8.out.size
        have HSB : Hid (w9.heap.size ≤ wB.heap.size) := hO.size
        have hcb : cntTo L hn ≤ 1024 := by have := cntTo_le L hn; omega
        obtain ⟨cn, hcn⟩ : ∃ x, x = cntTo L hn := ⟨_, rfl⟩
        rw [← hcn] at hcb ⊢
        have HCN : Hid (cn = cntTo L hn) := hcn
        clear hcn hO hR HT8
        have m62 := mk62
        go_upto_if 194 with fail
        obtain ⟨q0, hq0⟩ : ∃ x, x = wB.heap.size := ⟨_, rfl⟩
        obtain ⟨X, hX⟩ : ∃ X : Fx, X = { N := N, n0 := n0, t := t, sT := sT, w := w, fr := fr, bs := w9.heap.size, hp := hp, hn := hn, hc := hc2, L := L, V := VV, cn := cn, iv := iv, lv := lv, lvl := lvl, q0 := q0 } := ⟨_, rfl⟩
        have HX : Hid (X = { N := N, n0 := n0, t := t, sT := sT, w := w, fr := fr, bs := w9.heap.size, hp := hp, hn := hn, hc := hc2, L := L, V := VV, cn := cn, iv := iv, lv := lv, lvl := lvl, q0 := q0 }) := hX
        obtain ⟨wD, hwD⟩ : ∃ x, x = (wB.alloc (.cells #[.slice hp hn hc2, .int .i32 cn, .int .u32 iv] 60)).alloc (.cells #[.slice none 0 0] 24) := ⟨_, rfl⟩
        have HD0 : Hid (D0 X wD) := by
          show D0 X wD
          rw [hwD]
          subst hX
          exact D0.start (X := { N := N, n0 := n0, t := t, sT := sT, w := w, fr := fr, bs := w9.heap.size, hp := hp, hn := hn, hc := hc2, L := L, V := VV, cn := cn, iv := iv, lv := lv, lvl := lvl, q0 := q0 }) HTB.out HRB.out hq0 ⟨HN0.out, HS9.out, HSB.out⟩
        have HOB : Hid (∀ a, hp = some a → a.block < q0) := by
          intro a ha
          have := HRB.out.lt a.block (by rw [ha]; rfl)
          omega
        have dF : wD.cell? ⟨q0 + 1, 0, none⟩ = some (.slice none 0 0) := by have h := HD0.out; rw [hX] at h; exact h.F.cell 0 (by decide)
        have fF : wD.frozen? ⟨q0 + 1, 0, none⟩ = false := by have h := HD0.out; rw [hX] at h; exact h.F.frozen 0
        have sD : wD.heap.size = q0 + 2 := by have h := HD0.out; rw [hX] at h; exact h.size
        rw [← hq0, ← hwD]
        clear hwD hq0 m62 HTB HRB hX
        go_cut [45] from 195 to 201 (fun s wx => D1 X (-1) s wx)
        case first =>
          cases lvl
          · go_wp2
            go_meet
            have e := HX.out
            have h := HD0.out
            subst e
            exact h.bare rfl HOB.out
          · go_wp2
            go_meet
            have e := HX.out
            have h := HD0.out
            subst e
            exact h.full rfl HOB.out
        case rest =>
          have HD1 : Hid (D1 X (-1) u45 wc) := hcut
          clear hcut dF fF sD HD0
          obtain ⟨wC, hwC⟩ : ∃ x, x = wc := ⟨_, rfl⟩
          subst hwC
          have m65 := fun w => mkI65 N w (by omega)
          have m24 := fun w => mkI24 N w (by omega)
          go_upto_block 4 with fail
          have HL3 : Hid (L3 N wC.heap.size 0 wC ((wC.alloc (.cells (ndZ N) 68)).alloc (.cells (i32Z N) 21))) := L3.start N wC
          obtain ⟨wE, hwE⟩ : ∃ x, x = (wC.alloc (.cells (ndZ N) 68)).alloc (.cells (i32Z N) 21) := ⟨_, rfl⟩
          obtain ⟨q1, hq1⟩ : ∃ x, x = wC.heap.size := ⟨_, rfl⟩
          rw [← hwE, ← hq1] at HL3
          rw [← hwE, ← hq1]
          have HQ1 : Hid (q1 = wC.heap.size) := hq1
          clear hwE hq1 m65 m24
          go_cut [] from 206 to 221 (fun wx => L3 N q1 N wC wx)
          case first =>
            go_wp2_with fail
            go_loopw [49] (fun i wr => ∃ k : Nat, k ≤ N ∧ i = .int .i32 k ∧ L3 N q1 k wC wr) (fun i _ => N - (intOf i).toNat)
            case atStart => exact ⟨0, Nat.zero_le _, rfl, HL3.out⟩
            case round =>
              obtain ⟨k, hk, rfl, hT⟩ := hrel
              have HT : Hid (L3 N q1 k wC wr) := hT
              by_cases hlt : k < N
              · have HK : Hid (k < N) := hlt
                have hkN : (k : Int) < (N : Int) := by omega
                obtain ⟨g0, g1, _, _⟩ := hT.g.nd k hlt
                have a0 := hT.a.cell k hlt
                have f1 := hT.g.frozen
                have f2 := hT.a.frozen
                clear hT
                go_wp2
                go_roundw
                case rel => exact ⟨k + 1, HK.out, by go_num, HT.out.step (by rw [HQ1.out]; exact Nat.le_refl _) HK.out⟩
                case measure => have := HK.out; simp [intOf]; omega
              · go_wp2
                go_meet
                obtain rfl : k = N := by omega
                exact HT.out
          case rest =>
            have HT3 : Hid (L3 N q1 N wC wc) := hcut
            clear hcut HL3
            obtain ⟨wF, hwF⟩ : ∃ x, x = wc := ⟨_, rfl⟩
            subst hwF
            go_upto_if 228 with fail
            obtain ⟨aU, haU⟩ : ∃ x, x = arrF sU u := ⟨_, rfl⟩
            have HAU : Hid (aU = arrF sU u) := haU
            rw [show bits .or .i64 ((sU : Int) * 2147483648) (u : Int) = aU from haU.symm]
            clear haU
            go_cut [] from 229 to 244 (fun wx => D4 X q1 u aU mem u45 wx)
            case first =>
              have hd := HD1.out
              have h3 := HT3.out
              have eX := HX.out
              cases mem
              · clear hd h3 eX
                go_wp2
                go_meet
                have eX := HX.out
                have hd := HD1.out
                have h3 := HT3.out
                subst eX
                exact D4.plain hd h3 HQ1.out
              · have hlv : lvl = true := by
                  have := HM.out
                  cases lvl
                  · simp at this
                  · rfl
                subst hlv
                have h45 : u45 = .slice (some ⟨q0 + 2, 0, none⟩) 1 1 := by
                  subst eX
                  rcases hd.lv with ⟨_, h2, _⟩ | ⟨h1, _⟩
                  · exact h2
                  · cases h1
                have l2 : wF.cell? ⟨q0 + 2, 2, none⟩ = some (.int .i32 (-1)) := by
                  have hd' := hd.only h3.only
                  subst eX
                  rcases hd'.lv with ⟨_, _, _, h4, _⟩ | ⟨h1, _⟩
                  · rw [h4.cellAt 2 (by omega)]; rfl
                  · cases h1
                have fl : wF.frozen? ⟨q0 + 2, 2, none⟩ = false := by
                  have hd' := hd.only h3.only
                  subst eX
                  rcases hd'.lv with ⟨_, _, _, h4, _⟩ | ⟨h1, _⟩
                  · exact h4.frozenAt 2
                  · cases h1
                have hq : q0 + 4 ≤ q1 := by
                  subst eX
                  exact (D4.plain (u := u) (aU := aU) hd h3 HQ1.out).q4 rfl
                subst h45
                obtain ⟨_, _, g2, g3⟩ := h3.g.nd u huN
                have f1 := h3.g.frozen
                have a0 := h3.a.cell u huN
                have f2 := h3.a.frozen
                have huN' : (u : Int) < (N : Int) := by omega
                clear hd h3 eX
                go_wp2
                go_meet
                have eX := HX.out
                have hd := HD1.out
                have h3 := HT3.out
                subst eX
                exact D4.member hd h3 HQ1.out rfl huN
            case rest =>
              have HD4 : Hid (D4 X q1 u aU mem u45 wc) := hcut
              have s4 : wc.heap.size = q1 + 2 := hcut.size
              clear hcut HT3 HD1
              obtain ⟨wG, hwG⟩ : ∃ x, x = wc := ⟨_, rfl⟩
              subst hwG
              go_wp2_with fail
              refine (errors_new _ _).mono ?_
              rintro e w' ⟨rfl, rfl⟩
              go_wp2_with fail
              refine (errors_new _ _).mono ?_
              rintro e w' ⟨rfl, rfl⟩
              go_upto_region 65 with fail
              simp only [Nat.add_assoc, Nat.reduceAdd]
              obtain ⟨wI, hwI⟩ : ∃ x, x = six q1 ⟨#[114, 101, 112, 111, 114, 116]⟩ ⟨#[112, 114, 101]⟩ wG := ⟨_, rfl⟩
              have HD5 : Hid (D5 X q1 u aU mem u45 wI ∧ wI.heap.size = q1 + 8) := by
                show D5 X q1 u aU mem u45 wI ∧ _
                rw [hwI]
                refine HD4.out.six ?_ _ _
                rw [HX.out]
                exact hN1
              unfold six at hwI
              rw [← hwI]
              have sI : wI.heap.size = q1 + 8 := HD5.out.2
              have j0 : wI.cell? ⟨q0, 0, none⟩ = some (.slice hp hn hc2) := by have h := HD5.out.1.d1.i0; rw [HX.out] at h; exact h
              have j1 : wI.cell? ⟨q0, 1, none⟩ = some (.int .i32 cn) := by have h := HD5.out.1.d1.i1; rw [HX.out] at h; exact h
              have j2 : wI.cell? ⟨q0, 2, none⟩ = some (.int .u32 iv) := by have h := HD5.out.1.d1.i2; rw [HX.out] at h; exact h
              clear hwI s4 HD4
              obtain ⟨lp, ln, h45⟩ : ∃ lp ln, u45 = .slice lp ln ln := by
                rcases HD5.out.1.d1.lv with ⟨_, h2, _⟩ | ⟨_, h2, _⟩
                · exact ⟨_, _, h2⟩
                · exact ⟨_, _, h2⟩
              subst h45
              have hX := HX.out
              have HNO : Hid (mem = true → u ≠ t) := by
                intro hm
                have h1 := HM.out
                rw [hm] at h1
                have h2 : 2 ≤ N := by
                  cases wm <;> simp at h1
                  exact h1.1
                have h3 := HU.out
                by_cases e : t + 1 < N
                · rw [Nat.mod_eq_of_lt e] at h3; omega
                · have : t + 1 = N := by omega
                  rw [this, Nat.mod_self] at h3; omega
              have HLB : Hid (∀ j, -1 ≤ L j ∧ L j < N) := by
                intro j
                rw [HL.out]
                exact lockOf_b N LL j
              refine r65 (some ⟨n0 + 1, 0, none⟩, N, N) (some ⟨n0 + 2, 0, none⟩, N, N) (some ⟨n0 + 3, 0, none⟩, N, N) (some ⟨n0 + 4, 0, none⟩, N, N) (some ⟨n0 + 5, 0, none⟩, N, N) (some ⟨n0 + 6, 0, none⟩, N + 1, N + 1) (some ⟨n0 + 7, 0, none⟩, N, N) (some ⟨n0 + 8, 0, none⟩, N, N) (lp, ln, ln) (some ⟨q0 + 1, 0, none⟩, 1, 1) (some ⟨q1, 0, none⟩, N, N) (some ⟨q1 + 1, 0, none⟩, N, N)
                #[.pointer (some ⟨q1 + 2, 0, none⟩), .pointer (some ⟨q1 + 3, 0, none⟩), .pointer (some ⟨q1 + 4, 0, none⟩), .pointer (some ⟨n0, 0, none⟩), .pointer (some ⟨q1 + 6, 0, none⟩)] N q0 hp hn hc2 cn iv
                (by kernel_rfl) (by kernel_rfl) (by kernel_rfl) (by kernel_rfl) (by kernel_rfl) (by kernel_rfl) (by kernel_rfl) (by kernel_rfl) (by kernel_rfl) rfl rfl rfl rfl rfl rfl rfl rfl rfl rfl rfl rfl rfl rfl rfl (by omega) j0 j1 j2 ?_
              intro y D I b h2 hy
              replace hy : y 57 = .pointer (some ⟨q1 + 10, 0, none⟩) := by rw [hy, sI]
              have hmade : Made4 X q1 u aU mem D I (b.alloc (.cells (X.mgr q1 D I lp ln) 89)) ∧ (b.alloc (.cells (X.mgr q1 D I lp ln) 89)).cell? ⟨q1 + 10, 31, none⟩ = some .nilIface := by
                have h5 := HD5.out.1
                subst hX
                exact made4 h5 sI h2 htN hN4 hsT huN HNO.out HLB.out hn1
              have hmg : X.mgr q1 D I lp ln = mgv (some ⟨n0 + 1, 0, none⟩, N, N) (some ⟨n0 + 2, 0, none⟩, N, N) (some ⟨n0 + 3, 0, none⟩, N, N) (some ⟨n0 + 4, 0, none⟩, N, N) (some ⟨n0 + 5, 0, none⟩, N, N) (some ⟨n0 + 6, 0, none⟩, N + 1, N + 1) (some ⟨n0 + 7, 0, none⟩, N, N) (some ⟨n0 + 8, 0, none⟩, N, N) (lp, ln, ln) (some ⟨q0 + 1, 0, none⟩, 1, 1) (some ⟨q1, 0, none⟩, N, N) (some ⟨q1 + 1, 0, none⟩, N, N)
                #[.pointer (some ⟨q1 + 2, 0, none⟩), .pointer (some ⟨q1 + 3, 0, none⟩), .pointer (some ⟨q1 + 4, 0, none⟩), .pointer (some ⟨n0, 0, none⟩), .pointer (some ⟨q1 + 6, 0, none⟩)] N D I := by subst hX; rfl
              rw [← hmg]
              obtain ⟨wJ, hwJ⟩ : ∃ x, x = b.alloc (.cells (X.mgr q1 D I lp ln) 89) := ⟨_, rfl⟩
              rw [← hwJ] at hmade ⊢
              have HMD : Hid (Made4 X q1 u aU mem D I wJ) := hmade.1
              have c31 := hmade.2
              have fC31 := hmade.1.fC 31
              have HLN : Hid (ln = if lvl then 1 else 0) := by
                have h5 := HD5.out.1.d1.lv
                rw [hX] at h5
                rcases h5 with ⟨k1, k2, _⟩ | ⟨k1, k2, _⟩
                · have k1' : lvl = true := k1
                  simp only [Value.slice.injEq] at k2
                  show ln = _
                  rw [k1', k2.2.1]; rfl
                · have k1' : lvl = false := k1
                  simp only [Value.slice.injEq] at k2
                  show ln = _
                  rw [k1', k2.2.1]; rfl
              have hln1 : ln ≤ 1 := by rw [HLN.out]; split <;> omega
              clear hmade hmg hwJ h2 HD5 sI j0 j1 j2 hX
              refine lay_of_moves (P := Yba.prog) (ops := (movesOf DR65 y).toArray) y DR65 _ _ ?_
              simp only [movesOf, DR65, List.map_cons, List.map_nil]
              rw [hy]
              clear hy
              go_upto_if 268 with fail
              go_cut [] from 269 to 272 (fun wx => Made4 X q1 u aU mem D I wx ∧ wx.cell? ⟨q1 + 10, 31, none⟩ = some (evOf pre q1))
              case first =>
                have HC31 : Hid (wJ.cell? ⟨q1 + 10, 31, none⟩ = some .nilIface) := c31
                cases pre
                · go_wp2
                  go_meet
                  exact ⟨HMD.out, HC31.out⟩
                · go_wp2
                  go_meet
                  exact HMD.out.err HC31.out _
              case rest =>
                obtain ⟨hmd, h31⟩ := hcut
                obtain ⟨wK, hwK⟩ : ∃ x, x = wc := ⟨_, rfl⟩
                subst hwK
                clear c31 fC31 HMD
                have HMK : Hid (Made4 X q1 u aU mem D I wK) := hmd
                have HCH : Hid (0 < cn → 0 < hn) := by
                  intro h0
                  have := HCN.out
                  have := cntTo_le L hn
                  omega
                have HW4 : Hid (Calls Yba.prog 11 #[.pointer (some ⟨q1 + 10, 0, none⟩), .int .i32 t, .int .i32 t, .int .i32 left] wK fun e w' => e = .returned (.tuple #[]) ∧ Fin (X.K q1 D I) (X.B q1) wK w' (X.nm u mem) (nd4 X.N u aU mem) (in4 X.N u mem) (if X.fr then .iface 98 (.pointer (some ⟨q1 + 5, 0, none⟩)) else .nilIface) (evOf pre q1) ((X.nm u mem).due left pre)) := by
                  have eX := HX.out
                  have hc := HCH.out
                  subst eX
                  exact wait4 hmd left pre hc h31
                clear hmd h31
                go_wp2_with fail
                refine HW4.out.mono ?_
                rintro e wZ ⟨rfl, hfin⟩
                have HF : Hid (Fin (X.K q1 D I) (X.B q1) wK wZ (X.nm u mem) (nd4 X.N u aU mem) (in4 X.N u mem) (if X.fr then .iface 98 (.pointer (some ⟨q1 + 5, 0, none⟩)) else .nilIface) (evOf pre q1) ((X.nm u mem).due left pre)) := hfin
                have HZ : Hid (Z4 X q1 u aU mem left pre wZ) := by
                  have eX := HX.out
                  have hm := HMK.out
                  subst eX
                  exact z4 hm htN hfin
                clear hfin HW4 HF HMK
                obtain ⟨sees, hse⟩ : ∃ x, x = (X.nm u mem).sees := ⟨_, rfl⟩
                obtain ⟨cur, hcu⟩ : ∃ x, x = (X.nm u mem).cur := ⟨_, rfl⟩
                obtain ⟨due, hdu⟩ : ∃ x, x = (X.nm u mem).due left pre := ⟨_, rfl⟩
                have HSE : Hid (sees = !(decide ((0 : Int) < (cn : Int)) && decide ((lv : Int) < (VV (hn - 1) : Int)))) := by rw [HX.out] at hse; exact hse
                have HCU : Hid (cur = if lvl && sees then 0 else -1) := by rw [HX.out] at hcu hse; rw [hse]; exact hcu
                have HDU : Hid (due = ((decide (left < 0) || (cur != left)) && !pre)) := by rw [hdu, hcu]; rfl
                have HCUR : Hid (cur = (X.nm u mem).cur) := hcu
                have HDUE : Hid (due = (X.nm u mem).due left pre) := hdu
                clear hse hcu hdu
                go_upto_region 70 with fail
                go_cut [59] from 281 to 295 (fun s wx => s = .bool sees ∧ wx = wZ)
                case first =>
                  by_cases h0 : 0 < cn
                  · have hh := HZ.out.ho
                    have h0h := HCH.out h0
                    rw [HX.out] at hh
                    rcases hh.p with ⟨_, e, _⟩ | ⟨g, e1, e2, e3, e4⟩
                    · exfalso; have : hn = 0 := e; omega
                    · have e1' : hp = some ⟨g, 0, none⟩ := e1
                      have e4' := (e4 (hn - 1) (by show hn - 1 < hn; omega)).2
                      obtain ⟨m, hm⟩ : ∃ m, hn = m + 1 := ⟨hn - 1, by omega⟩
                      rw [hm, Nat.add_sub_cancel] at e4'
                      obtain ⟨vk, hvk⟩ : ∃ x, x = VV m := ⟨_, rfl⟩
                      have e5 : wZ.cell? ⟨g, m * 2 + 1, none⟩ = some (.int .u32 vk) := by rw [hvk]; exact e4'
                      have HQ : Hid (sees = !(decide ((lv : Int) < (vk : Int)))) := by
                        show sees = _
                        have h1 : (0 : Int) < (cn : Int) := by omega
                        rw [HSE.out, hvk, hm, Nat.add_sub_cancel, decide_eq_true h1, Bool.true_and]
                      have hm1 : ((m + 1 : Nat) : Int) - 1 = (m : Int) := by omega
                      have hm2 : (m : Int) < ((m + 1 : Nat) : Int) := by omega
                      have hd : decide ((0 : Int) < (cn : Int)) = true := by simp; omega
                      have hd' : (0 : Int) < (cn : Int) := by omega
                      subst e1'
                      clear hh e1 e2 e3 e4 e4' hvk
                      have hmb : m ≤ 1024 := by omega
                      subst hm
                      go_wp2
                      go_meet
                      exact ⟨by rw [HQ.out]; simp, rfl⟩
                  · have hd : decide ((0 : Int) < (cn : Int)) = false := by simp; omega
                    have hd' : ¬ (0 : Int) < (cn : Int) := by omega
                    have HQ : Hid (sees = true) := by
                      show sees = _
                      rw [HSE.out, hd]; rfl
                    go_wp2
                    go_meet
                    exact ⟨by rw [HQ.out], rfl⟩
                case rest =>
                  obtain ⟨rfl, rfl⟩ := hcut
                  obtain ⟨wZ, hwZ⟩ : ∃ x, x = wc := ⟨_, rfl⟩
                  subst hwZ
                  obtain ⟨ls, hls⟩ : ∃ x, x = (lvl && sees) := ⟨_, rfl⟩
                  have HLS : Hid (ls = (lvl && sees)) := hls
                  clear hls
                  go_upto_region 72 with fail
                  go_cut [299] from 296 to 299 (fun s wx => s = .bool ls ∧ wx = wZ)
                  case first =>
                    cases lvl
                    · go_wp2
                      go_meet
                      exact ⟨by rw [HLS.out]; rfl, rfl⟩
                    · go_wp2
                      go_meet
                      exact ⟨by rw [HLS.out]; rfl, rfl⟩
                  case rest =>
                    obtain ⟨rfl, rfl⟩ := hcut
                    obtain ⟨wZ, hwZ⟩ : ∃ x, x = wc := ⟨_, rfl⟩
                    subst hwZ
                    go_upto_if 299 with fail
                    go_cut [60] from 296 to 299 (fun s wx => s = .int .i32 cur ∧ wx = wZ)
                    case first =>
                      cases ls
                      · have HQ : Hid (cur = -1) := by show cur = -1; rw [HCU.out, ← HLS.out]; rfl
                        go_wp2
                        go_meet
                        exact ⟨by rw [HQ.out], rfl⟩
                      · have HQ : Hid (cur = 0) := by show cur = 0; rw [HCU.out, ← HLS.out]; rfl
                        go_wp2
                        go_meet
                        exact ⟨by rw [HQ.out], rfl⟩
                    case rest =>
                      obtain ⟨rfl, rfl⟩ := hcut
                      obtain ⟨wZ, hwZ⟩ : ∃ x, x = wc := ⟨_, rfl⟩
                      subst hwZ
                      go_upto_region 74 with fail
                      go_cut [61] from 300 to 310 (fun s wx => s = .bool due ∧ wx = wZ)
                      case first =>
                        cases pre
                        · by_cases hl : left < 0
                          · have HQ : Hid (due = true) := by show due = true; rw [HDU.out]; simp [hl]
                            have hd : decide (left < 0) = true := by simp [hl]
                            go_wp2
                            go_meet
                            exact ⟨by rw [HQ.out], rfl⟩
                          · have hd : decide (left < 0) = false := by simp; omega
                            by_cases hc : cur = left
                            · have HQ : Hid (due = false) := by show due = false; rw [HDU.out]; simp [hl, hc]
                              have hb : (cur != left) = false := by simp [hc]
                              clear hc
                              go_wp2
                              go_meet
                              exact ⟨by rw [HQ.out], rfl⟩
                            · have HQ : Hid (due = true) := by show due = true; rw [HDU.out]; simp [hc]
                              have hb : (cur != left) = true := by simp [hc]
                              go_wp2
                              go_meet
                              exact ⟨by rw [HQ.out], rfl⟩
                        · have HQ : Hid (due = false) := by show due = false; rw [HDU.out]; simp
                          by_cases hl : left < 0
                          · have hd : decide (left < 0) = true := by simp [hl]
                            go_wp2
                            go_meet
                            exact ⟨by rw [HQ.out], rfl⟩
                          · have hd : decide (left < 0) = false := by simp; omega
                            by_cases hc : cur = left
                            · have hb : (cur != left) = false := by simp [hc]
                              clear hc
                              go_wp2
                              go_meet
                              exact ⟨by rw [HQ.out], rfl⟩
                            · have hb : (cur != left) = true := by simp [hc]
                              go_wp2
                              go_meet
                              exact ⟨by rw [HQ.out], rfl⟩
                      case rest =>
                        obtain ⟨rfl, rfl⟩ := hcut
                        obtain ⟨wZ, hwZ⟩ : ∃ x, x = wc := ⟨_, rfl⟩
                        subst hwZ
                        go_upto_if 311 with fail
                        go_cut [] from 312 to 388 (fun wx => Z4 X q1 u aU mem left pre wx)
                        case first => as_aux_lemma =>
                          cases due
                          · have c0 : wZ.cell? ⟨q1 + 2, 0, none⟩ = some (.int .i64 0) := by have c := HZ.out.calls; rw [← HDUE.out] at c; exact c
                            have ce : wZ.cell? ⟨q1 + 10, 31, none⟩ = some (evOf pre q1) := by have c := HZ.out.err; rw [← HDUE.out] at c; exact c
                            unfold evOf at ce
                            cases pre
                            · have ce' : wZ.cell? ⟨q1 + 10, 31, none⟩ = some .nilIface := ce
                              clear ce
                              go_wp2
                              go_meet
                              exact HZ.out
                            · have ce' : wZ.cell? ⟨q1 + 10, 31, none⟩ = some (.iface 98 (.pointer (some ⟨q1 + 7, 0, none⟩))) := ce
                              clear ce
                              have n73 := neq73
                              go_wp2
                              go_meet
                              exact HZ.out
                          · have hdue : (X.nm u mem).due left pre = true := HDUE.out.symm
                            have c1 : wZ.cell? ⟨q1 + 2, 0, none⟩ = some (.int .i64 1) := by have c := HZ.out.calls; rw [hdue] at c; exact c
                            obtain ⟨vg, hg⟩ := HZ.out.got hdue
                            rw [HX.out] at hg
                            have g0 : wZ.cell? ⟨q1 + 3, 0, none⟩ = some (.int .i64 ((t : Int) * 7 + 1)) := hg 0 (by decide)
                            have g1 : wZ.cell? ⟨q1 + 3, 1, none⟩ = some (.int .u8 114) := hg 1 (by decide)
                            have g2 : wZ.cell? ⟨q1 + 3, 2, none⟩ = some (.int .i64 ((t : Int) * 7 + 1)) := hg 2 (by decide)
                            have g3 : wZ.cell? ⟨q1 + 3, 3, none⟩ = some (.string ⟨#[120]⟩) := hg 3 (by decide)
                            have o0 : wZ.cell? ⟨n0 + 1, t * 3, none⟩ = some (.int .u8 114) := by have h := HZ.out.o0; rw [HX.out] at h; exact h
                            have o1 : wZ.cell? ⟨n0 + 1, t * 3 + 1, none⟩ = some (.int .i64 ((t : Int) * 7 + 1)) := by have h := HZ.out.o1; rw [HX.out] at h; exact h
                            have o2 : wZ.cell? ⟨n0 + 1, t * 3 + 2, none⟩ = some (.string ⟨#[120]⟩) := by have h := HZ.out.o2; rw [HX.out] at h; exact h
                            have n30 := neq30'
                            have htN' : (t : Int) < (N : Int) := by omega
                            have hb1 : (((t : Int) * 7 + 1) != ((t : Int) * 7 + 1)) = false := by simp
                            clear hg hdue
                            go_wp2_with fail
                            go_quiet (fail)
                            clear c1 g0 g1 g2 g3 o0 o1 o2 n30 hb1
                            go_upto_block 6 with fail
                            go_cut [62] from 335 to 356 (fun sv wx => Only [] wZ wx ∧ wx.ownsRow wZ.heap.size 3 1 sv (zsTo L t hn).length ((zsTo L t hn).map (.int .i64)))
                            case first =>
                              go_wp2_with fail
                              go_loopw [335, 62] (fun i sv wr => ∃ k : Nat, k ≤ hn ∧ i = .int .i64 k ∧ Only [] wZ wr ∧ wr.ownsRow wZ.heap.size 3 1 sv (zsTo L t k).length ((zsTo L t k).map (.int .i64))) (fun i _ _ => hn - (intOf i).toNat)
                              case atStart => exact ⟨0, Nat.zero_le _, rfl, (Only.refl _ wZ).drewN _, World.ownsRow_nil _ _ _ _⟩
                              case round =>
                                obtain ⟨k, hk, rfl, how, hor⟩ := hrel
                                have HOW : Hid (Only [] wZ wr) := how
                                have HOR : Hid (wr.ownsRow wZ.heap.size 3 1 u62 (zsTo L t k).length ((zsTo L t k).map (.int .i64))) := hor
                                clear how hor
                                by_cases hlt : k < hn
                                · have hh := HZ.out.ho
                                  rw [HX.out] at hh
                                  rcases hh.p with ⟨_, e, _⟩ | ⟨g, e1, _, hgl, hcl⟩
                                  · exfalso; have : hn = 0 := e; omega
                                  · have e1' : hp = some ⟨g, 0, none⟩ := e1
                                    have hbd : -1 ≤ L k ∧ L k < N := hh.b k hlt
                                    have cg0 : wr.cell? ⟨g, k * 2, none⟩ = some (.int .i32 (L k)) := (HOW.out.cell (p := ⟨g, k * 2, none⟩) hgl (by simp)).trans (hcl k hlt).1
                                    have cg1 : wr.cell? ⟨g, k * 2 + 1, none⟩ = some (.int .u32 (VV k)) := (HOW.out.cell (p := ⟨g, k * 2 + 1, none⟩) hgl (by simp)).trans (hcl k hlt).2
                                    obtain ⟨Lk, hLk⟩ : ∃ x, x = L k := ⟨_, rfl⟩
                                    obtain ⟨Vk, hVk⟩ : ∃ x, x = VV k := ⟨_, rfl⟩
                                    rw [← hLk] at cg0 hbd
                                    rw [← hVk] at cg1
                                    have HLK : Hid (Lk = L k) := hLk
                                    have HXX : Hid (∀ l, l < N → wZ.cell? ⟨n0 + 2, l, none⟩ = some (.int .i64 (l * 7 + 1))) := by
                                      intro l hl
                                      have h := HZ.out.x
                                      rw [HX.out] at h
                                      exact h l hl
                                    have HK : Hid (k < hn) := hlt
                                    have hi1 : (k : Int) < (hn : Int) := by omega
                                    subst e1'
                                    clear hh e1 hgl hcl hLk hVk
                                    go_upto_region 82 with fail
                                    obtain ⟨sp, sc, rfl⟩ := own_slice HOR.out
                                    obtain ⟨w1, hw1⟩ : ∃ x, x = wr.alloc (.cells #[.int .i32 Lk, .int .u32 Vk] 58) := ⟨_, rfl⟩
                                    obtain ⟨bx, hbx⟩ : ∃ x, x = wr.heap.size := ⟨_, rfl⟩
                                    have b0 : w1.cell? ⟨bx, 0, none⟩ = some (.int .i32 Lk) := by rw [hw1, hbx, World.cell?_alloc_new]; rfl
                                    have HO1 : Hid (Only [] wZ w1) := by show Only [] wZ w1; rw [hw1]; exact HOW.out.alloc _
                                    obtain ⟨zl, hzl⟩ : ∃ x, x = (zsTo L t k).length := ⟨_, rfl⟩
                                    have hzb : zl ≤ 1024 := by have := zsTo_len L t k; omega
                                    have HOR1 : Hid (w1.ownsRow wZ.heap.size 3 1 (.slice sp zl sc) zl ((zsTo L t k).map (.int .i64))) := by show w1.ownsRow _ _ _ _ _ _; rw [hw1, hzl]; exact HOR.out.alloc _
                                    rw [← hw1, ← hbx, ← hzl]
                                    have HZL : Hid (zl = (zsTo L t k).length) := hzl
                                    clear hw1 hbx hzl cg0 cg1 HOW HOR
                                    by_cases hneg : Lk < 0
                                    · have HQ : Hid (zsTo L t (k + 1) = zsTo L t k) := by
                                        show zsTo L t (k + 1) = _
                                        rw [zsTo, ← HLK.out, if_neg (by omega), List.append_nil]
                                      have hgd : decide (0 ≤ Lk) = false := by simp; omega
                                      go_wp2
                                      go_roundw
                                      case rel =>
                                        refine ⟨k + 1, HK.out, by go_num, HO1.out, ?_⟩
                                        rw [HQ.out, ← HZL.out]
                                        exact HOR1.out
                                      case measure => have := HK.out; simp [intOf]; omega
                                    · obtain ⟨l, rfl⟩ : ∃ l : Nat, Lk = (l : Int) := ⟨Lk.toNat, by omega⟩
                                      have hlN : l < N := by omega
                                      have hlN' : (l : Int) < (N : Int) := by omega
                                      have x0 : w1.cell? ⟨n0 + 2, l, none⟩ = some (.int .i64 (l * 7 + 1)) := (HO1.out.cell (p := ⟨n0 + 2, l, none⟩) (World.block_lt_of_cell? _ _ (HXX.out l hlN)) (by simp)).trans (HXX.out l hlN)
                                      have hgd : decide (0 ≤ (l : Int)) = true := by simp
                                      by_cases hlt' : l = t
                                      · have HQ : Hid (zsTo L t (k + 1) = zsTo L t k) := by
                                          show zsTo L t (k + 1) = _
                                          rw [zsTo, ← HLK.out, if_neg (by omega), List.append_nil]
                                        have hne : ((l : Int) != (t : Int)) = false := by simp [hlt']
                                        clear hlt'
                                        go_wp2
                                        go_roundw
                                        case rel =>
                                          refine ⟨k + 1, HK.out, by go_num, HO1.out, ?_⟩
                                          rw [HQ.out, ← HZL.out]
                                          exact HOR1.out
                                        case measure => have := HK.out; simp [intOf]; omega
                                      · have HQ : Hid (zsTo L t (k + 1) = zsTo L t k ++ [(l : Int) * 7 + 1]) := by
                                          show zsTo L t (k + 1) = _
                                          rw [zsTo, ← HLK.out, if_pos (by omega)]
                                        have hne : ((l : Int) != (t : Int)) = true := by simp; omega
                                        obtain ⟨i0, hi, hz0, hz1, hz2⟩ := info_parts info3
                                        obtain ⟨v', w2, hr, ho2, hg2, _⟩ := run_append_own (P := Yba.prog) (w := w1.alloc (.cells #[.int .i64 ((l : Int) * 7 + 1)] 3)) wZ.heap.size 34 34 3 i0 _ 1 8 Yba.underlying34 hi hz0 hz1 hz2 rfl (by decide) (.slice sp zl sc) zl ((zsTo L t k).map (.int .i64)) (HOR1.out.alloc _) ⟨w1.heap.size, 0, none⟩ 1 1 [.int .i64 ((l : Int) * 7 + 1)] rfl
                                          (fun j u hj => by
                                            rw [Go.WideShapes.add_plain, World.cell?_alloc_at _ _ _ _ (by simp)]
                                            simpa using hj)
                                          (fun u hu => by simp at hu; subst hu; rfl) (by unfold maxLen; omega) (by omega) (by have := HO1.out.size; simp; omega)
                                        have HAR : Hid ((Builtin.append_ #[34, 34] 34 #[.slice sp zl sc, .slice (some ⟨w1.heap.size, 0, none⟩) 1 1]).run Yba.prog (w1.alloc (.cells #[.int .i64 ((l : Int) * 7 + 1)] 3)) = .ok v' w2) := hr
                                        obtain ⟨vp, vc, rfl⟩ := own_slice ho2
                                        have HO2 : Hid (Only [] wZ w2) := by
                                          refine ⟨hg2.os.trans HO1.out.os, hg2.tape.trans HO1.out.tape, hg2.output.trans HO1.out.output, ?_, fun x hx _ => ?_⟩
                                          · have h1 := hg2.size
                                            have h2 := HO1.out.size
                                            simp at h1
                                            omega
                                          · have h2 := HO1.out.size
                                            rw [hg2.block x (by simp; omega) (fun e => by have := HOR1.out.lt x e.symm; omega)]
                                            exact (Below.heap_alloc _ _ _ (by omega)).trans (HO1.out.block x hx (by simp))
                                        have HR2 : Hid (w2.ownsRow wZ.heap.size 3 1 (.slice vp (zl + 1) vc) (zsTo L t (k + 1)).length ((zsTo L t (k + 1)).map (.int .i64))) := by
                                          show w2.ownsRow _ _ _ _ _ _
                                          rw [HQ.out, List.map_append, List.length_append, ← HZL.out]
                                          exact ho2
                                        clear hr ho2 hg2 hi hz0 hz1 hz2
                                        go_wp2_with (at_builtin; refine wpList_append_run rfl _ _ 34 rfl _ _ (.slice vp (zl + 1) vc) w2 rfl rfl HAR.out ?_)
                                        go_roundw
                                        case rel => exact ⟨k + 1, HK.out, by go_num, HO2.out, HR2.out⟩
                                        case measure => have := HK.out; simp [intOf]; omega
                                · go_wp2
                                  go_meet
                                  obtain rfl : k = hn := by omega
                                  exact ⟨HOW.out, HOR.out⟩
                            case rest =>
                              obtain ⟨how, hor⟩ := hcut
                              have HOW : Hid (Only [] wZ wc) := how
                              have HOR : Hid (wc.ownsRow wZ.heap.size 3 1 u62 (zsTo L t hn).length ((zsTo L t hn).map (.int .i64))) := hor
                              clear how hor
                              obtain ⟨wQ, hwQ⟩ : ∃ x, x = wc := ⟨_, rfl⟩
                              subst hwQ
                              go_wp2_with fail
                              refine (sort_own wQ wZ.heap.size u62 _ (zsTo L t hn) HOR.out (by have := zsTo_len L t hn; omega)).mono ?_
                              rintro e wS ⟨rfl, hi, hg⟩
                              have hoS : Only [] wZ wS := by
                                refine ⟨hg.os.trans HOW.out.os, hg.tape.trans HOW.out.tape, hg.output.trans HOW.out.output, Nat.le_trans HOW.out.size hg.size, fun b hb _ => ?_⟩
                                have h2 := HOW.out.size
                                rw [hg.block b (by omega) (fun e => by have := (HOR.out.lt b e.symm).1; omega)]
                                exact HOW.out.block b hb (by simp)
                              have HZS : Hid (Z4 X q1 u aU mem left pre wS) := HZ.out.later hoS
                              obtain ⟨v', hv1, hv2⟩ := HZS.out.goth HDUE.out.symm
                              rw [HX.out] at hv2
                              have HI1 : Hid (Ints wS u62 (sorted (zsTo L t hn))) := hi
                              have HI2 : Hid (Ints wS v' (sorted (zsTo L t hn))) := hv2
                              have hfr : wS.cell? ⟨n0, 0, none⟩ = some (.bool fr) := by have h := HZS.out.fr; rw [HX.out] at h; exact h
                              have hsn : wS.cell? ⟨q1 + 6, 0, none⟩ = some (.iface 98 (.pointer (some ⟨q1 + 5, 0, none⟩))) := HZS.out.s
                              have hce : wS.cell? ⟨q1 + 10, 31, none⟩ = some (if fr then .iface 98 (.pointer (some ⟨q1 + 5, 0, none⟩)) else .nilIface) := by have h := HZS.out.err; rw [← HDUE.out, HX.out] at h; exact h
                              obtain ⟨sp, sc, rfl⟩ : ∃ p c, u62 = .slice p (zsTo L t hn).length c := own_slice HOR.out
                              obtain ⟨sp', sn', sc', rfl⟩ : ∃ p n c, v' = .slice p n c := by
                                rcases HI2.out with ⟨h, _⟩ | ⟨_, _, h, _⟩ <;> exact ⟨_, _, _, h⟩
                              clear hi hg hoS hv2 HOW HOR HZ
                              go_wp2_with fail
                              refine (equal_ints wS _ _ _ HI1.out HI2.out (by have := zsTo_len L t hn; simp [sorted]; omega)).mono ?_
                              rintro e w' ⟨rfl, q, rfl⟩
                              cases fr
                              · have hce' : wS.cell? ⟨q1 + 10, 31, none⟩ = some .nilIface := hce
                                clear hce
                                go_wp2
                                go_meet
                                exact HZS.out.later ((Only.refl _ _).drewN _)
                              · have hce' : wS.cell? ⟨q1 + 10, 31, none⟩ = some (.iface 98 (.pointer (some ⟨q1 + 5, 0, none⟩))) := hce
                                clear hce
                                have n73 := neq73
                                go_wp2_with fail
                                go_quiet (fail)
                                go_wp2
                                go_meet
                                exact HZS.out.later (((Only.refl _ _).drewN _).drewN _)
                        case rest => as_aux_lemma =>
                          have HZ : Hid (Z4 X q1 u aU mem left pre wc) := hcut
                          clear hcut
                          obtain ⟨wY, hwY⟩ : ∃ x, x = wc := ⟨_, rfl⟩
                          subst hwY
                          go_upto_if 391 with fail
                          have HOW : Hid (Only [] w wY) := by have h := HZ.out.only; rw [HX.out] at h; exact h
                          obtain ⟨lb, lc, fb, fc, e1, e2, e3, e4, e5, e6, e7⟩ := HZ.out.lev
                          have k22 := HZ.out.c22
                          have k23 := HZ.out.c23
                          have k24 := HZ.out.c24
                          have kg := HZ.out.g
                          have ka := HZ.out.a
                          have hcu := HCUR.out
                          have hXX := HX.out
                          have hln := HLN.out
                          have haU := HAU.out
                          have htN' : (t : Int) < (N : Int) := by omega
                          cases ls
                          · have hc : cur = -1 := by rw [HCU.out, ← HLS.out]; rfl
                            rw [hc] at hcu
                            have hne : (X.nm u mem).cur ≠ 0 := by omega
                            have i1 : (X.nm u mem).id = ln := by
                              rw [Nm.id, if_neg hne, Nm.ln, hln, hXX]; rfl
                            have i2 : (X.nm u mem).tot = ln + 1 := by
                              rw [Nm.tot, if_neg hne, Nm.ln, hln, hXX]; rfl
                            have i3 : (X.nm u mem).root = -1 := by rw [Nm.root, if_neg hne]
                            rw [i1, i2] at e2
                            rw [i2] at e1 e6
                            rw [i1] at e3 e4 e5 e7 ka
                            rw [if_neg hne] at e4
                            rw [i3] at e5 kg
                            have hj := jNd_neg (nd4 X.N u aU mem) X.t X.sT (-1) (by decide)
                            obtain ⟨g0, g1, g2, g3⟩ := kg.nd X.t (by rw [hXX]; exact htN)
                            rw [hj.1] at g0
                            rw [hj.2.1] at g1
                            rw [hj.2.2.1] at g2
                            rw [hj.2.2.2] at g3
                            have a0 := ka.cell X.t (by rw [hXX]; exact htN)
                            simp only [i32s, upd_same] at a0
                            rw [hXX] at e4 e5 e6 k22 k23 k24 g0 g1 g2 g3 a0
                            simp only [] at e4 e5 e6 k22 k23 k24 g0 g1 g2 g3 a0
                            rw [show jRt t (-1) = (t : Int) from by simp [jRt]] at e5
                            rw [show arrF sT t = bits .or .i64 ((sT : Int) * 2147483648) (t : Int) from rfl] at g2
                            have m1 : ((ln + 1 : Nat) : Int) - 1 = (ln : Int) := by omega
                            have m2 : (ln : Int) < ((ln + 1 : Nat) : Int) := by omega
                            have m3 : (ln : Int) ≤ 1 := by omega
                            subst hc
                            have z1 : q1 + 10 < wY.heap.size := World.block_lt_of_cell? _ _ e1
                            have z2 : lb < wY.heap.size := World.block_lt_of_cell? _ _ e5
                            clear hcu hXX hln haU kg ka hne i1 i2 i3 hj e2 HZ
                            go_wp2
                            go_ret
                            exact ⟨rfl, HOW.out.alloc _⟩
                          · have hc : cur = 0 := by rw [HCU.out, ← HLS.out]; rfl
                            have hlv1 : lvl = true := by
                              have h := HLS.out
                              cases lvl
                              · cases h
                              · rfl
                            have hl1 : ln = 1 := by rw [hln, hlv1]; rfl
                            rw [hc] at hcu
                            have he : (X.nm u mem).cur = 0 := hcu.symm
                            have i1 : (X.nm u mem).id = 0 := by rw [Nm.id, if_pos he]
                            have i2 : (X.nm u mem).tot = 1 := by rw [Nm.tot, if_pos he]
                            have i3 : (X.nm u mem).root = if mem then (u : Int) else -1 := by rw [Nm.root, if_pos he]; rfl
                            rw [i2] at e1 e6
                            rw [i1] at e5 ka
                            rw [i3] at e5 kg
                            have a0 := ka.cell X.t (by rw [hXX]; exact htN)
                            simp only [i32s, upd_same] at a0
                            rw [hXX] at a0 e6 k22 k23 k24
                            simp only [] at a0 e6 k22 k23 k24
                            have hgt : wY.cell? ⟨q1, t * 4, none⟩ = some (.int .i32 (-1)) ∧ wY.cell? ⟨q1, t * 4 + 1, none⟩ = some (.int .i32 (-1)) ∧ wY.cell? ⟨q1, t * 4 + 2, none⟩ = some (.int .i64 (bits .or .i64 ((sT : Int) * 2147483648) (t : Int))) ∧ wY.cell? ⟨q1, t * 4 + 3, none⟩ = some (.int .i8 1) := by
                              obtain ⟨g0, g1, g2, g3⟩ := kg.nd X.t (by rw [hXX]; exact htN)
                              have hj : (jNd (nd4 X.N u aU mem) X.t X.sT (if mem then (u : Int) else -1)).l X.t = -1 ∧ (jNd (nd4 X.N u aU mem) X.t X.sT (if mem then (u : Int) else -1)).r X.t = -1 ∧ (jNd (nd4 X.N u aU mem) X.t X.sT (if mem then (u : Int) else -1)).a X.t = arrF X.sT X.t ∧ (jNd (nd4 X.N u aU mem) X.t X.sT (if mem then (u : Int) else -1)).h X.t = 1 := by
                                cases mem
                                · exact jNd_neg _ _ _ _ (by show (-1 : Int) < 0; decide)
                                · have h := jNd_mem X.N u X.t X.sT aU (by rw [hXX]; exact huN) (by rw [hXX]; exact HNO.out rfl)
                                  exact ⟨h.1, h.2.1, h.2.2.1, h.2.2.2.1⟩
                              rw [hj.1] at g0
                              rw [hj.2.1] at g1
                              rw [hj.2.2.1] at g2
                              rw [hj.2.2.2] at g3
                              rw [hXX] at g0 g1 g2 g3
                              exact ⟨g0, g1, g2, g3⟩
                            obtain ⟨g0, g1, g2, g3⟩ := hgt
                            have a0' : wY.cell? ⟨q1 + 1, t, none⟩ = some (.int .i32 0) := by simpa using a0
                            have m3 : (ln : Int) = 1 := by omega
                            have HE5 : Hid (wY.cell? ⟨lb, 2, none⟩ = some (.int .i32 (if mem then (u : Int) else (t : Int)))) := by
                              show wY.cell? _ = _
                              rw [hXX] at e5
                              have e5' : wY.cell? ⟨lb, 2, none⟩ = some (.int .i32 (jRt t (if mem then (u : Int) else -1))) := by simpa using e5
                              rw [e5']
                              cases mem
                              · simp [jRt]
                              · simp only [if_true, jRt]
                                rw [if_neg (by omega)]
                            have HND : Hid (mem = true → wY.cell? ⟨q1, u * 4 + 3, none⟩ = some (.int .i8 2) ∧ (arrF sT t < aU → wY.cell? ⟨q1, u * 4, none⟩ = some (.int .i32 t) ∧ wY.cell? ⟨q1, u * 4 + 1, none⟩ = some (.int .i32 (-1))) ∧ (¬ arrF sT t < aU → wY.cell? ⟨q1, u * 4, none⟩ = some (.int .i32 (-1)) ∧ wY.cell? ⟨q1, u * 4 + 1, none⟩ = some (.int .i32 t)) ∧ ∃ v, wY.cell? ⟨q1, u * 4 + 2, none⟩ = some (.int .i64 v)) := by
                              intro hm
                              subst hm
                              rw [if_pos rfl] at kg
                              have hj := jNd_mem X.N u X.t X.sT aU (by rw [hXX]; exact huN) (by rw [hXX]; exact HNO.out rfl)
                              obtain ⟨u0, u1, u2, u3⟩ := kg.nd u (by rw [hXX]; exact huN)
                              rw [hj.2.2.2.2.1] at u3
                              have hA := hj.2.2.2.2.2.1
                              have hBB := hj.2.2.2.2.2.2
                              refine ⟨u3, fun hl => ?_, fun hl => ?_, ⟨_, u2⟩⟩
                              · obtain ⟨x1, x2⟩ := hA (by rw [hXX]; exact hl)
                                rw [x1] at u0
                                rw [x2] at u1
                                rw [hXX] at u0
                                exact ⟨u0, u1⟩
                              · obtain ⟨x1, x2⟩ := hBB (by rw [hXX]; exact hl)
                                rw [x1] at u1
                                rw [x2] at u0
                                rw [hXX] at u1
                                exact ⟨u0, u1⟩
                            subst hc
                            have z1 : q1 + 10 < wY.heap.size := World.block_lt_of_cell? _ _ e1
                            have HE1 : Hid (wY.cell? ⟨q1 + 10, 21, none⟩ = some (.slice (some ⟨lb, 0, none⟩) 1 lc)) := e1
                            have HK24 : Hid (wY.cell? ⟨q1 + 10, 24, none⟩ = some (.slice (some ⟨q1, 0, none⟩) N N)) := k24
                            subst hl1
                            clear hcu hXX hln haU kg ka he i1 i2 i3 e2 e3 e4 e5 e7 a0 HZ
                            go_upto_if 511 with fail
                            obtain ⟨w5, hw5⟩ : ∃ x, x = wY.alloc (.cells #[.int .i32 (-1), .int .i32 (-1), .int .i64 (bits .or .i64 ((sT : Int) * 2147483648) (t : Int)), .int .i8 1] 68) := ⟨_, rfl⟩
                            have o5 : Only [] wY w5 := by rw [hw5]; exact (Only.refl _ _).alloc _
                            have E5 : Hid (∀ (b j : Nat) (v : Value), wY.cell? ⟨b, j, none⟩ = some v → w5.cell? ⟨b, j, none⟩ = some v) := fun b j v hv => (o5.cell (p := ⟨b, j, none⟩) (World.block_lt_of_cell? _ _ hv) (by simp)).trans hv
                            have HO5 : Hid (Only [] w w5) := HOW.out.trans o5
                            rw [← hw5]
                            clear hw5 o5 g0 g1 g2 g3 a0' e1 e6 k22 k23 k24 z1
                            obtain ⟨aT, haT⟩ : ∃ x, x = bits .or .i64 ((sT : Int) * 2147483648) (t : Int) := ⟨_, rfl⟩
                            rw [← haT]
                            have HAT : Hid (aT = arrF sT t) := haT
                            clear haT
                            have y1 := E5.out _ _ _ HE1.out
                            have y2 := E5.out _ _ _ HE5.out
                            cases mem
                            · have y2' : w5.cell? ⟨lb, 2, none⟩ = some (.int .i32 t) := y2
                              clear y2
                              go_wp2
                              go_ret
                              exact ⟨rfl, HO5.out⟩
                            · have y2' : w5.cell? ⟨lb, 2, none⟩ = some (.int .i32 u) := y2
                              have y3 := E5.out _ _ _ HK24.out
                              obtain ⟨n3, nA, nB, v2, n2⟩ := HND.out rfl
                              have x3 := E5.out _ _ _ n3
                              have x2 := E5.out _ _ _ n2
                              have huN' : (u : Int) < (N : Int) := by omega
                              have zz : q1 + 10 < w5.heap.size := World.block_lt_of_cell? _ _ y1
                              have zl : lb < w5.heap.size := World.block_lt_of_cell? _ _ y2'
                              by_cases hlt : aT < aU
                              · obtain ⟨n0', n1'⟩ := nA (by rw [← HAT.out]; exact hlt)
                                have x0 := E5.out _ _ _ n0'
                                have x1 := E5.out _ _ _ n1'
                                have hd : decide (aT < aU) = true := by simp [hlt]
                                clear y2 n3 nA nB n2 n0' n1'
                                go_wp2
                                go_ret
                                exact ⟨rfl, HO5.out.alloc _⟩
                              · obtain ⟨n0', n1'⟩ := nB (by rw [← HAT.out]; exact hlt)
                                have x0 := E5.out _ _ _ n0'
                                have x1 := E5.out _ _ _ n1'
                                have hd : decide (aT < aU) = false := by simp; omega
                                have hlt' : aU ≤ aT := by omega
                                clear y2 n3 nA nB n2 n0' n1' hlt
                                go_wp2
                                go_ret
                                exact ⟨rfl, HO5.out.alloc _⟩

end Go.Proofs.Ybulkhwa

import Derived.Test.YbulkhwaP6
namespace Go.Proofs.Ybulkhwa
open Go.RowKit Go.Pool

/-- the transactions of the first k holders, but t's -/
def zsTo (L : Nat → Int) (t : Nat) : Nat → List Int
  | 0 => []
  | k + 1 => zsTo L t k ++ (if 0 ≤ L k ∧ L k ≠ t then [L k * 7 + 1] else [])

theorem zsTo_len (L : Nat → Int) (t k : Nat) : (zsTo L t k).length ≤ k := by
  induction k with
  | zero => simp [zsTo]
  | succ k ih =>
    simp only [zsTo, List.length_append]
    split <;> simp <;> omega

/-- the holders' row -/
structure HoldAt (w : World) (hp : Option Addr) (hn hc N : Nat) (L : Nat → Int) (vr : Nat → Int) : Prop where
  p : hp = none ∧ hn = 0 ∧ hc = 0 ∨ ∃ g, hp = some ⟨g, 0, none⟩ ∧ hn ≤ hc ∧ g < w.heap.size ∧ (∀ j, j < hn → w.cell? ⟨g, j * 2, none⟩ = some (.int .i32 (L j)) ∧ w.cell? ⟨g, j * 2 + 1, none⟩ = some (.int .u32 (vr j)))
  b : ∀ j, j < hn → -1 ≤ L j ∧ L j < N
  n : hn ≤ 1024

/-- what 'reportWait' reads of the manager -/
structure RwAt (K : Mb) (O X LO J LI : Nat) (B : Cp) (w : World) (hp : Option Addr) (hn hc : Nat) (it : ByteArray) : Prop where
  c0 : w.cell? ⟨K.C, 0, none⟩ = some (.slice (some ⟨O, 0, none⟩) K.N K.N)
  c1 : w.cell? ⟨K.C, 1, none⟩ = some (.slice (some ⟨X, 0, none⟩) K.N K.N)
  c3 : w.cell? ⟨K.C, 3, none⟩ = some (.slice (some ⟨LO, 0, none⟩) K.N K.N)
  c15 : w.cell? ⟨K.C, 15, none⟩ = some (.slice (some ⟨J, 0, none⟩) K.N K.N)
  c16 : w.cell? ⟨K.C, 16, none⟩ = some (.slice (some ⟨LI, 0, none⟩) K.N K.N)
  c20 : w.cell? ⟨K.C, 20, none⟩ = some (.slice (some ⟨K.I, 0, none⟩) 1 1)
  c29 : w.cell? ⟨K.C, 29, none⟩ = some (.func (.func 10) #[] B.vals)
  c30 : w.cell? ⟨K.C, 30, none⟩ = some (.slice none 0 0)
  c31 : w.cell? ⟨K.C, 31, none⟩ = some .nilIface
  i0 : w.cell? ⟨K.I, 0, none⟩ = some (.slice hp hn hc)
  lo : w.cell? ⟨LO, K.t, none⟩ = some (.int .i32 K.t)
  li : w.cell? ⟨LI, K.t, none⟩ = some (.int .i32 0)
  j : ∀ l, l < K.N → w.cell? ⟨J, l, none⟩ = some (.int .i32 l)
  x : ∀ l, l < K.N → w.cell? ⟨X, l, none⟩ = some (.int .i64 (l * 7 + 1))
  o0 : w.cell? ⟨O, K.t * 3, none⟩ = some (.int .u8 114)
  o1 : w.cell? ⟨O, K.t * 3 + 1, none⟩ = some (.int .i64 (K.t * 7 + 1))
  o2 : w.cell? ⟨O, K.t * 3 + 2, none⟩ = some (.string it)
  fC : ∀ j, w.frozen? ⟨K.C, j, none⟩ = false
  nC : K.C ∉ [B.c, B.g, B.h, B.f, B.s]
  nO : O ∉ [K.C, B.c, B.g, B.h]

/-- what 'reportWait' leaves -/
structure Wrote (K : Mb) (B : Cp) (w w' : World) (it : ByteArray) (zs : List Int) (rv : Value) : Prop where
  c : w'.cell? ⟨B.c, 0, none⟩ = some (.int .i64 1)
  g : ∃ v, ∀ j, j < 5 → w'.cell? ⟨B.g, j, none⟩ = (waitC (K.t * 7 + 1) it v)[j]?
  h : ∃ v', w'.cell? ⟨B.h, 0, none⟩ = some v' ∧ Ints w' v' (sorted zs) ∧ ∀ k, v'.ownBlock = some k → w.heap.size ≤ k
  e : w'.cell? ⟨K.C, 31, none⟩ = some rv
  cc : ∀ j, j ≠ 30 → j ≠ 31 → w'.cell? ⟨K.C, j, none⟩ = w.cell? ⟨K.C, j, none⟩
  fC : ∀ j, w'.frozen? ⟨K.C, j, none⟩ = false
  only : Only [K.C, B.c, B.g, B.h] w w'

theorem Cp.At.only {B : Cp} {w w' : World} {fr : Bool} {sv : Value} {S : List Nat} (h : B.At w fr sv) (ho : Only S w w') (hn : ∀ b ∈ [B.c, B.g, B.h, B.f, B.s], b ∉ S) : B.At w' fr sv := by
  obtain ⟨g, hg⟩ := h.g
  obtain ⟨v, hv⟩ := h.h
  exact ⟨h.nd, h.c.only ho (h.c.lt (by decide)) (hn _ (by simp)), ⟨g, hg.only ho (hg.lt (by decide)) (hn _ (by simp))⟩, ⟨v, hv.only ho (hv.lt (by decide)) (hn _ (by simp))⟩,
    (ho.cell (p := ⟨B.f, 0, none⟩) (World.block_lt_of_cell? _ _ h.f) (hn _ (by simp))).trans h.f, (ho.cell (p := ⟨B.s, 0, none⟩) (World.block_lt_of_cell? _ _ h.s) (hn _ (by simp))).trans h.s⟩

theorem own_slice {w : World} {base : Nat} {e : TypeId} {size : Nat} {v : Value} {n : Nat} {xs : List Value} (h : w.ownsRow base e size v n xs) : ∃ p c, v = .slice p n c := by
  rcases h.2 with ⟨rfl, rfl⟩ | ⟨g, c, cur, rfl, _⟩
  · exact ⟨_, _, rfl⟩
  · exact ⟨_, _, rfl⟩

theorem reportWait_err (C : Nat) (t : Nat) (T : TypeId) (p : Value) (w : World) (c31 : w.cell? ⟨C, 31, none⟩ = some (.iface T p)) :
    Calls Yba.prog 19 #[.pointer (some ⟨C, 0, none⟩), .int .i32 t, .int .i32 t] w fun e w' => e = .returned (.tuple #[]) ∧ w' = w := by
  go_enter Yba.func19, Yba.ntmps19
  go_wp2
  refine bodyPost_ret (results_none rfl _ _ _) rfl ?_
  exact ⟨rfl, rfl⟩

set_option maxRecDepth 100000 in
set_option maxHeartbeats 2000000 in
theorem reportWait_any (K : Mb) (hK : K.Ok) (O X LO J LI : Nat) (B : Cp) (w : World) (hp : Option Addr) (hn hc : Nat) (it : ByteArray) (L vr : Nat → Int) (fr : Bool) (sv : Value) (hsv : ∃ T p, sv = .iface T p) (rv : Value) (hrv : rv = if fr then sv else .nilIface)
    (h : RwAt K O X LO J LI B w hp hn hc it) (hh : HoldAt w hp hn hc K.N L vr) (hB : B.At w fr sv) :
    Calls Yba.prog 19 #[.pointer (some ⟨K.C, 0, none⟩), .int .i32 K.t, .int .i32 K.t] w fun e w' => e = .returned (.tuple #[]) ∧ Wrote K B w w' it (zsTo L K.t hn) rv := by
  have H : Hid (RwAt K O X LO J LI B w hp hn hc it) := h
  have HH : Hid (HoldAt w hp hn hc K.N L vr) := hh
  have HB : Hid (B.At w fr sv) := hB
  have HV : Hid (∃ T p, sv = .iface T p) := hsv
  have HRV : Hid (rv = if fr then sv else .nilIface) := hrv
  have ht := hK.t
  have c20 := h.c20
  have c16 := h.c16
  have c3 := h.c3
  have c30 := h.c30
  have c31 := h.c31
  have i0 := h.i0
  have lo := h.lo
  have li := h.li
  have hnb := hh.n
  have hp1 : hn ≤ hc := by rcases hh.p with ⟨_, h1, h2⟩ | ⟨_, _, h, _⟩ <;> omega
  clear h hh hB hsv hrv
  go_enter Yba.func19, Yba.ntmps19
  go_wp2_with fail
  go_quiet (fail)
  go_wp2
  go_loopw [40, 6] (fun i v wr => ∃ k q : Nat, k ≤ hn ∧ i = .int .i64 k ∧ Only [] w wr ∧ wr.ownsRow w.heap.size 3 1 v (zsTo L K.t k).length ((zsTo L K.t k).map (.int .i64)) ∧ q = 0) (fun i _ _ => hn - (intOf i).toNat)
  case atStart => exact ⟨0, 0, Nat.zero_le _, rfl, ((Only.refl _ w).drewN _), World.ownsRow_nil _ _ _ _, rfl⟩
  case round =>
    obtain ⟨k, q, hk, rfl, how, hor, hq⟩ := hrel
    have HOW : Hid (Only [] w wr) := how
    have HOR : Hid (wr.ownsRow w.heap.size 3 1 u6 (zsTo L K.t k).length ((zsTo L K.t k).map (.int .i64))) := hor
    clear how hor hq
    by_cases hlt : k < hn
    · rcases HH.out.p with ⟨_, h, _⟩ | ⟨g, rfl, _, hg, hcl⟩
      · omega
      obtain ⟨hcl0, hcl1⟩ := hcl k hlt
      have hbd := HH.out.b k hlt
      have lC : K.C < w.heap.size := World.block_lt_of_cell? _ _ H.out.c0
      have cg0 : wr.cell? ⟨g, k * 2, none⟩ = some (.int .i32 (L k)) := (HOW.out.cell (p := ⟨g, k * 2, none⟩) hg (by simp)).trans hcl0
      have cg1 : wr.cell? ⟨g, k * 2 + 1, none⟩ = some (.int .u32 (vr k)) := (HOW.out.cell (p := ⟨g, k * 2 + 1, none⟩) hg (by simp)).trans hcl1
      obtain ⟨Lk, hLk⟩ : ∃ x, x = L k := ⟨_, rfl⟩
      obtain ⟨Vk, hVk⟩ : ∃ x, x = vr k := ⟨_, rfl⟩
      rw [← hLk] at cg0 hbd
      rw [← hVk] at cg1
      have HLK : Hid (Lk = L k) := hLk
      have HG : Hid (g < w.heap.size) := hg
      have HLC : Hid (K.C < w.heap.size) := lC
      clear hcl hcl0 hcl1 hLk hVk hg lC
      have hi1 : (k : Int) < (hn : Int) := by omega
      have HK : Hid (k < hn) := hlt
      go_upto_region 5 with fail
      obtain ⟨sp, sc, rfl⟩ := own_slice HOR.out
      obtain ⟨w1, e1⟩ : ∃ x, x = wr.alloc (.cells #[.int .i32 Lk, .int .u32 Vk] 58) := ⟨_, rfl⟩
      obtain ⟨bx, hbx⟩ : ∃ x, x = wr.heap.size := ⟨_, rfl⟩
      have o1 : Only [] w w1 := by rw [e1]; exact HOW.out.alloc _
      have b0 : w1.cell? ⟨bx, 0, none⟩ = some (.int .i32 Lk) := by rw [e1, hbx, World.cell?_alloc_new]; rfl
      have hor1 : w1.ownsRow w.heap.size 3 1 (.slice sp (zsTo L K.t k).length sc) (zsTo L K.t k).length ((zsTo L K.t k).map (.int .i64)) := by rw [e1]; exact HOR.out.alloc _
      have hbo : (Value.slice sp (zsTo L K.t k).length sc).ownBlock ≠ some bx := by
        intro e
        have := HOR.out.lt bx e
        omega
      have c15 : w1.cell? ⟨K.C, 15, none⟩ = some (.slice (some ⟨J, 0, none⟩) K.N K.N) := (o1.cell (p := ⟨K.C, 15, none⟩) HLC.out (by simp)).trans H.out.c15
      have c1 : w1.cell? ⟨K.C, 1, none⟩ = some (.slice (some ⟨X, 0, none⟩) K.N K.N) := (o1.cell (p := ⟨K.C, 1, none⟩) HLC.out (by simp)).trans H.out.c1
      rw [← e1, ← hbx]
      have HO1 : Hid (Only [] w w1) := o1
      have HOR1 : Hid (w1.ownsRow w.heap.size 3 1 (.slice sp (zsTo L K.t k).length sc) (zsTo L K.t k).length ((zsTo L K.t k).map (.int .i64))) := hor1
      have HBO : Hid ((Value.slice sp (zsTo L K.t k).length sc).ownBlock ≠ some bx) := hbo
      obtain ⟨zl, hzl⟩ : ∃ x, x = (zsTo L K.t k).length := ⟨_, rfl⟩
      rw [← hzl] at HOR1 HBO ⊢
      have HZL : Hid (zl = (zsTo L K.t k).length) := hzl
      clear e1 hbx o1 hor1 hbo cg0 cg1 HOW HOR hzl
      by_cases hneg : Lk < 0
      · have HZ : Hid (zsTo L K.t (k + 1) = zsTo L K.t k) := by
          show zsTo L K.t (k + 1) = _
          rw [zsTo, ← HLK.out, if_neg (by omega), List.append_nil]
        have hgd : decide (0 ≤ Lk) = false := by simp; omega
        go_quiet (fail)
        go_wp2
        go_roundw
        case rel =>
          refine ⟨k + 1, 0, HK.out, by go_num, HO1.out.drewN _, ?_, rfl⟩
          rw [HZ.out, ← HZL.out]
          exact HOR1.out
        case measure => have := HK.out; simp [intOf]; omega
      · obtain ⟨l, rfl⟩ : ∃ l : Nat, Lk = (l : Int) := ⟨Lk.toNat, by omega⟩
        have hlN : l < K.N := by omega
        have hlN' : (l : Int) < (K.N : Int) := by omega
        have lJ := World.block_lt_of_cell? _ _ (H.out.j l hlN)
        have lX := World.block_lt_of_cell? _ _ (H.out.x l hlN)
        have j0 : w1.cell? ⟨J, l, none⟩ = some (.int .i32 l) := (HO1.out.cell (p := ⟨J, l, none⟩) lJ (by simp)).trans (H.out.j l hlN)
        have x0 : w1.cell? ⟨X, l, none⟩ = some (.int .i64 (l * 7 + 1)) := (HO1.out.cell (p := ⟨X, l, none⟩) lX (by simp)).trans (H.out.x l hlN)
        have HLX : Hid (J < w.heap.size ∧ X < w.heap.size) := ⟨lJ, lX⟩
        have hgd : decide (0 ≤ (l : Int)) = true := by simp
        clear lJ lX
        by_cases hlt' : l = K.t
        · have HZ : Hid (zsTo L K.t (k + 1) = zsTo L K.t k) := by
            show zsTo L K.t (k + 1) = _
            rw [zsTo, ← HLK.out, if_neg (by omega), List.append_nil]
          subst hlt'
          have hne : ((K.t : Int) != (K.t : Int)) = false := by simp
          go_quiet (fail)
          go_wp2
          go_roundw
          case rel =>
            refine ⟨k + 1, 0, HK.out, by go_num, HO1.out.drewN _, ?_, rfl⟩
            rw [HZ.out, ← HZL.out]
            exact HOR1.out
          case measure => have := HK.out; simp [intOf]; omega
        · have HZ : Hid (zsTo L K.t (k + 1) = zsTo L K.t k ++ [(l : Int) * 7 + 1]) := by
            show zsTo L K.t (k + 1) = _
            rw [zsTo, ← HLK.out, if_pos (by omega)]
          have hne : ((l : Int) != (K.t : Int)) = true := by simp; omega
          go_quiet (fail)
          go_wp2_with fail
          refine p6 K.C X J bx K.N l (l * 7 + 1) sp zl sc w.heap.size ((zsTo L K.t k).map (.int .i64)) hlN (by kernel_rfl) (by kernel_rfl) (by kernel_rfl) (by kernel_rfl) (by kernel_rfl) rfl rfl rfl c1 c15 b0 j0 x0 ?_ HOR1.out HO1.out.size (by have := zsTo_len L K.t k; have := HZL.out; omega) ?_
          · intro b hb e
            have h1 := HOR1.out.lt b e.symm
            have h2 := HLC.out
            have h3 := HLX.out
            rcases hb with rfl | rfl | rfl | rfl
            · omega
            · omega
            · omega
            · exact HBO.out e.symm
          · intro y v' w2 ho hg hy
            subst hy
            have HO : Hid (w2.ownsRow w.heap.size 3 1 (y 6) (zl + 1) ((zsTo L K.t k).map (.int .i64) ++ [.int .i64 (l * 7 + 1)])) := ho
            have HO2 : Hid (Only [] w w2) := by
              refine ⟨hg.os.trans HO1.out.os, hg.tape.trans HO1.out.tape, hg.output.trans HO1.out.output, ?_, fun b hb _ => ?_⟩
              · have h1 := hg.size
                have h2 := HO1.out.size
                simp at h1
                omega
              · have h2 := HO1.out.size
                rw [hg.block b (by simp; omega) (fun e => by have := HOR1.out.lt b e.symm; omega)]
                exact (Below.heap_alloc _ _ _ (by show b < w1.heap.size; omega)).trans (HO1.out.block b hb (by simp))
            clear ho hg
            refine lay_of_moves (P := Yba.prog) (ops := (movesOf DP6 y).toArray) y DP6 _ _ ?_
            simp only [movesOf, DP6, List.map_cons, List.map_nil]
            go_wp2
            go_roundw
            case rel =>
              refine ⟨k + 1, 0, HK.out, by go_num, HO2.out, ?_, rfl⟩
              have e := HO.out
              rw [HZ.out, List.map_append, List.length_append, ← HZL.out]
              exact e
            case measure => have := HK.out; simp [intOf]; omega
    · go_wp2_with fail
      obtain rfl : k = hn := by omega
      refine (sort_own wr w.heap.size u6 _ (zsTo L K.t k) HOR.out (by have := zsTo_len L K.t k; omega)).mono ?_
      rintro e wS ⟨rfl, hi, hg⟩
      obtain ⟨sp, sc, rfl⟩ := own_slice HOR.out
      have lC : K.C < w.heap.size := World.block_lt_of_cell? _ _ H.out.c0
      have hob : ∀ b, (Value.slice sp (zsTo L K.t k).length sc).ownBlock = some b → w.heap.size ≤ b := fun b hb => (HOR.out.lt b hb).1
      have oS : Only [] w wS := by
        refine ⟨hg.os.trans HOW.out.os, hg.tape.trans HOW.out.tape, hg.output.trans HOW.out.output, Nat.le_trans HOW.out.size hg.size, fun b hb _ => ?_⟩
        have h2 := HOW.out.size
        rw [hg.block b (by omega) (fun e => by have := hob b e.symm; omega)]
        exact HOW.out.block b hb (by simp)
      have c30S : wS.cell? ⟨K.C, 30, none⟩ = some (.slice none 0 0) := (oS.cell (p := ⟨K.C, 30, none⟩) lC (by simp)).trans H.out.c30
      have f30S : wS.frozen? ⟨K.C, 30, none⟩ = false := (oS.frozen (p := ⟨K.C, 30, none⟩) lC (by simp)).trans (H.out.fC 30)
      have HI : Hid (Ints wS (.slice sp (zsTo L K.t k).length sc) (sorted (zsTo L K.t k))) := hi
      have HOB : Hid (∀ b, (Value.slice sp (zsTo L K.t k).length sc).ownBlock = some b → w.heap.size ≤ b) := hob
      have HS : Hid (Only [] w wS) := oS
      have HLC : Hid (K.C < w.heap.size) := lC
      obtain ⟨zl, hzl⟩ : ∃ x, x = (zsTo L K.t k).length := ⟨_, rfl⟩
      rw [← hzl] at HI HOB ⊢
      have HZL : Hid (zl = (zsTo L K.t k).length) := hzl
      clear hi hg hob oS HOR HOW hzl lC c31 c30 c20 c16 c3 i0 lo li
      go_wp2_with fail
      obtain ⟨w9, e9⟩ : ∃ x, x = wS.setCell ⟨K.C, 30, none⟩ (.slice sp zl sc) := ⟨_, rfl⟩
      rw [← e9]
      have o9 : Only [K.C] w w9 := by rw [e9]; exact (HS.out.mono (by simp)).setCell (by simp) _
      have cc9 : ∀ j, j ≠ 30 → w9.cell? ⟨K.C, j, none⟩ = w.cell? ⟨K.C, j, none⟩ := by
        intro j hj
        rw [e9, World.cell?_setCell_other _ _ _ _ (by intro hx; injection hx; omega), HS.out.cell (p := ⟨K.C, j, none⟩) HLC.out (by simp)]
      have f9 : ∀ j, w9.frozen? ⟨K.C, j, none⟩ = false := by
        intro j
        rw [e9, World.frozen?_setCell, HS.out.frozen (p := ⟨K.C, j, none⟩) HLC.out (by simp)]
        exact H.out.fC j
      have i9 : Ints w9 (.slice sp zl sc) (sorted (zsTo L K.t k)) := by
        rw [e9]
        exact HI.out.only ((Only.refl [K.C] wS).setCell (by simp) _) (fun b hb => by have h1 := HOB.out b hb; have h2 := HLC.out; simp; omega)
      have b9 : B.At w9 fr sv := HB.out.only o9 (fun b hb hm => by
        have h1 := H.out.nC
        simp at hm
        exact h1 (hm ▸ hb))
      clear e9
      have hsl : (sorted (zsTo L K.t k)).length ≤ 1024 := by have h1 := zsTo_len L K.t k; simp [sorted]; omega
      have lO : O < w.heap.size := World.block_lt_of_cell? _ _ H.out.o0
      have nO := H.out.nO
      have nC := H.out.nC
      simp only [List.mem_cons, List.not_mem_nil, not_or, or_false] at nO nC
      have l9 := o9.size
      have hB3 : B.c < w.heap.size ∧ B.g < w.heap.size ∧ B.h < w.heap.size := by
        obtain ⟨_, hg⟩ := HB.out.g
        obtain ⟨_, hh⟩ := HB.out.h
        exact ⟨HB.out.c.lt (by decide), hg.lt (by decide), hh.lt (by decide)⟩
      have C9 : ∀ (w1 : World) (q j : Nat) , Only [B.c, B.g, B.h] (w9.drewN q) w1 → w1.cell? ⟨K.C, j, none⟩ = w9.cell? ⟨K.C, j, none⟩ := by
        intro w1 q j h1
        exact h1.cell (p := ⟨K.C, j, none⟩) (by have := HLC.out; show K.C < w9.heap.size; omega) (by simp; exact ⟨nC.1, nC.2.1, nC.2.2.1⟩)
      have O9 : ∀ (w1 : World) (q j : Nat) , Only [B.c, B.g, B.h] (w9.drewN q) w1 → w1.cell? ⟨O, j, none⟩ = w.cell? ⟨O, j, none⟩ := by
        intro w1 q j h1
        refine (h1.cell (p := ⟨O, j, none⟩) (by show O < w9.heap.size; omega) (by simp; exact ⟨nO.2.1, nO.2.2.1, nO.2.2.2⟩)).trans ?_
        exact o9.cell (p := ⟨O, j, none⟩) lO (by simp; exact nO.1)
      refine p10 K.C O K.N K.t (K.t * 7 + 1) it sp zl sc B rv ?_ ht (by kernel_rfl) (by kernel_rfl) (by kernel_rfl) (by kernel_rfl) (by kernel_rfl) rfl rfl rfl
        (fun k' w' => (k' = 0 ∧ ∃ q, w' = w9.drewN q) ∨ (k' = 1 ∧ ∃ q, Reported B (w9.drewN q) w' (K.t * 7 + 1) it (.slice sp zl sc) (sorted (zsTo L K.t k))) ∨ (k' = 2 ∧ ∃ q w1, Reported B (w9.drewN q) w1 (K.t * 7 + 1) it (.slice sp zl sc) (sorted (zsTo L K.t k)) ∧ w' = w1.setCell ⟨K.C, 31, none⟩ rv))
        (Or.inl ⟨rfl, 1, rfl⟩) ?_ ?_ ?_ ?_
      · obtain ⟨T, p, rfl⟩ := HV.out
        have e := HRV.out
        cases fr
        · exact Or.inl e
        · exact Or.inr ⟨T, p, e⟩
      · rintro k' w' (⟨_, q, rfl⟩ | ⟨_, q, h1⟩ | ⟨_, q, w1, h1, rfl⟩)
        · have := Only.refl [B.c, B.g, B.h] (w9.drewN q)
          exact ⟨(cc9 29 (by decide)).trans H.out.c29, (cc9 0 (by decide)).trans H.out.c0, (O9 _ q _ this).trans H.out.o0, (O9 _ q _ this).trans H.out.o1, (O9 _ q _ this).trans H.out.o2⟩
        · exact ⟨((C9 _ q _ h1.only).trans (cc9 29 (by decide))).trans H.out.c29, ((C9 _ q _ h1.only).trans (cc9 0 (by decide))).trans H.out.c0, (O9 _ q _ h1.only).trans H.out.o0, (O9 _ q _ h1.only).trans H.out.o1, (O9 _ q _ h1.only).trans H.out.o2⟩
        · have e1 : ∀ j, j ≠ 31 → (w1.setCell ⟨K.C, 31, none⟩ rv).cell? ⟨K.C, j, none⟩ = w1.cell? ⟨K.C, j, none⟩ := fun j hj => World.cell?_setCell_other _ _ _ _ (by intro hx; injection hx; omega)
          have e2 : ∀ j, (w1.setCell ⟨K.C, 31, none⟩ rv).cell? ⟨O, j, none⟩ = w1.cell? ⟨O, j, none⟩ := fun j => World.cell?_setCell_other _ _ _ _ (by intro hx; injection hx; omega)
          rw [e1 29 (by decide), e1 0 (by decide), e2, e2, e2]
          exact ⟨((C9 _ q _ h1.only).trans (cc9 29 (by decide))).trans H.out.c29, ((C9 _ q _ h1.only).trans (cc9 0 (by decide))).trans H.out.c0, (O9 _ q _ h1.only).trans H.out.o0, (O9 _ q _ h1.only).trans H.out.o1, (O9 _ q _ h1.only).trans H.out.o2⟩
      · rintro w' (⟨_, q, rfl⟩ | ⟨h, _⟩ | ⟨h, _⟩)
        · refine (report_any B (w9.drewN q) fr sv (K.t * 7 + 1) it sp zl sc (sorted (zsTo L K.t k)) (b9.only ((Only.refl [] w9).drewN q) (by simp)) (i9.drewN q) (fun b hb => ?_) hsl).mono ?_
          · have h1 := HOB.out b hb
            simp
            omega
          · rintro e w'' ⟨rfl, hR⟩
            exact ⟨by rw [HRV.out], Or.inr (Or.inl ⟨rfl, q, hR⟩)⟩
        · cases h
        · cases h
      · rintro w' (⟨h, _⟩ | ⟨_, q, h1⟩ | ⟨h, _⟩)
        · cases h
        · refine ⟨?_, ⟨_, ((C9 _ q 31 h1.only).trans (cc9 31 (by decide))).trans H.out.c31⟩, Or.inr (Or.inr ⟨rfl, q, w', h1, rfl⟩)⟩
          exact (h1.only.frozen (p := ⟨K.C, 31, none⟩) (by have := HLC.out; show K.C < w9.heap.size; omega) (by simp; exact ⟨nC.1, nC.2.1, nC.2.2.1⟩)).trans (f9 31)
        · cases h
      · rintro y w' (⟨h, _⟩ | ⟨h, _⟩ | ⟨_, q, w1, h1, rfl⟩)
        · cases h
        · cases h
        · refine lay_of_moves (P := Yba.prog) (ops := (movesOf DP10 y).toArray) y DP10 _ _ ?_
          simp only [movesOf, DP10, List.map_cons, List.map_nil]
          have HW : Hid (Wrote K B w (w1.setCell ⟨K.C, 31, none⟩ rv) it (zsTo L K.t k) rv) := by
            have e0 : ∀ p : Addr, p.block ≠ K.C → (w1.setCell ⟨K.C, 31, none⟩ rv).cell? p = w1.cell? p := fun p hp => World.cell?_setCell_other _ _ _ _ (by intro hx; subst hx; exact hp rfl)
            refine ⟨?_, ⟨.slice sp zl sc, fun j hj => ?_⟩, ?_, ?_, fun j h30 h31 => ?_, fun j => ?_, ?_⟩
            · rw [e0 _ (fun e => nC.1 e.symm)]; exact h1.c
            · rw [e0 _ (fun e => nC.2.1 e.symm)]; exact h1.g j hj
            · obtain ⟨v', r1, r2, r3⟩ := h1.h
              refine ⟨v', by rw [e0 _ (fun e => nC.2.2.1 e.symm)]; exact r1, r2.only ((Only.refl [K.C] w1).setCell (by simp) _) (fun b hb => ?_), fun b hb => ?_⟩
              · have h2 := r3 b hb
                have h3 : w9.heap.size ≤ b := h2
                have h4 := HLC.out
                simp
                omega
              · have h3 : w9.heap.size ≤ b := r3 b hb
                omega
            · exact World.cell?_setCell_same _ _ _ (((C9 _ q 31 h1.only).trans (cc9 31 (by decide))).trans H.out.c31)
            · rw [World.cell?_setCell_other _ _ _ _ (by intro hx; injection hx; omega), C9 _ q j h1.only, cc9 j h30]
            · rw [World.frozen?_setCell, h1.only.frozen (p := ⟨K.C, j, none⟩) (by have := HLC.out; show K.C < w9.heap.size; omega) (by simp; exact ⟨nC.1, nC.2.1, nC.2.2.1⟩)]
              exact f9 j
            · exact (((o9.mono (by simp)).drewN q).trans (h1.only.mono (by simp))).setCell (by simp) _
          clear C9 O9 b9 i9 f9 cc9 o9 h1 nC nO hB3 lO l9
          go_wp2
          go_end0
          exact ⟨rfl, HW.out⟩

end Go.Proofs.Ybulkhwa

import Derived.Test.YbulkhwoLow
import Derived.OpenShut
namespace Go.Proofs.Ybulkhwo
open Go.RowKit

/-- What the j-th word of the result must be. -/
def Exp (n : Int) (z Y : Nat → Int) (j : Nat) : Prop := (64 * (j : Int) + 64 ≤ n ∧ Y j = z j) ∨ (64 * (j : Int) < n ∧ n < 64 * (j : Int) + 64 ∧ Y j = msk (z j) (n - 64 * (j : Int)).toNat)

theorem exp_all (b off len cap : Nat) (n : Int) (j : Nat) (z Y : Nat → Int) (w : World) (hl : len ≤ 1024) (hj : j < len) (h1 : n ≤ 9223372036854775807) (hE : Exp n z Y j)
    (hc : w.cell? ⟨b, off + j, none⟩ = some (.int .u64 (z j))) :
    Calls Yba.prog 8 #[.slice (some ⟨b, off, none⟩) len cap, .int .i64 n, .int .i64 j] w fun e w' => e = .returned (.int .u64 (Y j)) ∧ w' = w := by
  rcases hE with ⟨h2, h3⟩ | ⟨h2, h3, h4⟩
  · rw [h3]; exact exp_hi b off len cap n j (z j) w hl hj h2 h1 hc
  · rw [h4]; exact exp_mid b off len cap n j (z j) w hl hj h2 h3 hc

/-- What 'lowWords' leaves. -/
structure LowOk (n : Int) (len m : Nat) (z Y : Nat → Int) (b : Nat) (w w' : World) : Prop where
  le : m ≤ len
  hi : 64 * (len : Int) ≤ n → m = len
  lo : n < 64 * (len : Int) → (m : Int) = (n + 63) / 64
  exp : ∀ j, j < m → Exp n z Y j
  low : ∀ j, j < m → w'.cell? ⟨b, j, none⟩ = some (.int .u64 (Y j))
  rest : ∀ j, m ≤ j → j < len → w'.cell? ⟨b, j, none⟩ = some (.int .u64 (z j))
  below : Below b w w'

theorem low_all (b len : Nat) (n : Int) (z : Nat → Int) (w : World) (hl : len ≤ 1024) (h0 : 0 ≤ n)
    (hc : ∀ j, j < len → w.cell? ⟨b, j, none⟩ = some (.int .u64 (z j))) (hf : ∀ j, w.frozen? ⟨b, j, none⟩ = false) :
    Calls Yba.prog 7 #[.slice (some ⟨b, 0, none⟩) len len, .int .i64 n] w fun e w' => ∃ m Y, e = .returned (.slice (some ⟨b, 0, none⟩) m len) ∧ LowOk n len m z Y b w w' := by
  by_cases hhi : 64 * (len : Int) ≤ n
  · refine (low_hi _ len len n w hl hhi).mono ?_
    rintro e w' ⟨rfl, rfl⟩
    exact ⟨len, z, rfl, Nat.le_refl _, fun _ => rfl, fun h => absurd h (by omega), fun j hj => Or.inl ⟨by omega, rfl⟩, hc, fun j h1 h2 => absurd h1 (by omega), Below.refl _ _⟩
  · by_cases hev : n % 64 = 0
    · refine (low_even b 0 len len n (n / 64).toNat w hl (Nat.le_refl _) (by omega) (by omega)).mono ?_
      rintro e w' ⟨rfl, rfl⟩
      exact ⟨_, z, rfl, by omega, fun h => absurd h hhi, fun h => by omega, fun j hj => Or.inl ⟨by omega, rfl⟩, fun j hj => hc j (by omega), fun j h1 h2 => hc j h2, Below.refl _ _⟩
    · have hq : (n / 64).toNat < len := by omega
      refine (low_odd b 0 len len n (n / 64).toNat (z (n / 64).toNat) w hl (Nat.le_refl _) hq (by omega) (by omega) (by rw [Nat.zero_add]; exact hc _ hq) (hf _)).mono ?_
      rintro e w' ⟨rfl, rfl⟩
      rw [Nat.zero_add]
      refine ⟨_, fun j => if j = (n / 64).toNat then msk (z j) (n - 64 * (j : Int)).toNat else z j, rfl, by omega, fun h => absurd h hhi, fun h => by omega, fun j hj => ?_, fun j hj => ?_, fun j h1 h2 => ?_, ((Below.refl b w).setCell (p := ⟨b, (n / 64).toNat, none⟩) (Nat.le_refl _) _).drew⟩
      · by_cases e : j = (n / 64).toNat
        · exact Or.inr ⟨by omega, by omega, by simp [e]⟩
        · exact Or.inl ⟨by omega, by simp [e]⟩
      · show (World.setCell _ _ _).cell? _ = _
        by_cases e : j = (n / 64).toNat
        · subst e
          rw [World.cell?_setCell_same _ _ _ (hc _ hq)]
          simp
        · rw [World.cell?_setCell_other _ _ _ _ (by intro h; injection h; omega), hc j (by omega)]
          simp [e]
      · show (World.setCell _ _ _).cell? _ = _
        rw [World.cell?_setCell_other _ _ _ _ (by intro h; injection h; omega), hc j h2]

theorem row_open {w : World} {a0 : Option Addr} {len0 cap0 : Nat} {z0 : List Int} (h : IsRow .u64 w a0 len0 cap0 z0) :
    0 < len0 → ∃ b off, a0 = some ⟨b, off, none⟩ ∧ b < w.heap.size ∧ ∀ j, j < len0 → w.cell? ⟨b, off + j, none⟩ = some (.int .u64 (z0.getD j 0)) := by
  intro hp
  rcases h with ⟨_, rfl, _⟩ | ⟨x, rfl, hlc, _, hz, hcell, _⟩
  · omega
  · obtain ⟨b, off, rfl, hc⟩ := ints_at hcell (by omega)
    exact ⟨b, off, rfl, World.block_lt_of_cell? w _ (hc 0 (by omega)), fun j hj => hc j (by omega)⟩

set_option maxRecDepth 100000 in
set_option maxHeartbeats 1000000 in
theorem lowlaw_any (a0 : Option Addr) (len0 cap0 : Nat) (z0 : List Int) (n : Int) (w : World) (w0 : IsRow .u64 w a0 len0 cap0 z0) (w1 : (Lit.int .i64 n).wf = true) :
    Calls Yba.prog 4 #[.slice a0 len0 cap0, .int .i64 n] w fun e w' => e = .returned (.bool true) ∧ Below w.heap.size w w' := by
  have hn : n ≤ 9223372036854775807 := by
    simp [Lit.wf, IntKind.min, IntKind.max, IntKind.signed, IntKind.bits] at w1
    omega
  clear w1
  by_cases hl : len0 ≤ 1024
  · by_cases h0 : 0 ≤ n
    · obtain ⟨M, w2, hmk, hcp, hc2, hf2, hb2⟩ := mk_copy w a0 len0 cap0 z0 w0 hl
      have HC2 : Hid (∀ j, j < len0 → w2.cell? ⟨w.heap.size, j, none⟩ = some (.int .u64 (z0.getD j 0))) := hc2
      have HF2 : Hid (∀ j, w2.frozen? ⟨w.heap.size, j, none⟩ = false) := hf2
      have HW : Hid (IsRow .u64 w a0 len0 cap0 z0) := w0
      clear hc2 hf2 w0
      go_enter Yba.func4, Yba.ntmps4
      go_wp2_with fail
      refine (low_all w.heap.size len0 n (fun j => z0.getD j 0) w2 hl h0 HC2.out HF2.out).mono ?_
      rintro e w3 ⟨m, Y, rfl, hok0⟩
      have hok : Hid (LowOk n len0 m (fun j => z0.getD j 0) Y w.heap.size w2 w3) := hok0
      have hm := hok0.le
      have hb3 : Below w.heap.size w w3 := hb2.trans hok0.below
      clear hok0 hcp hmk hb2 HC2 HF2
      go_upto_if 32 with fail
      go_cut [7] (fun s wx => s = .int .i64 m ∧ wx = w3)
      case first =>
        by_cases hhi : 64 * (len0 : Int) ≤ n
        · have e := hok.out.hi hhi
          go_wp2
          go_meet
          exact ⟨by rw [e], rfl⟩
        · have e := hok.out.lo (by omega)
          by_cases hev : n % 64 = 0
          · have e1 : (n % 64 != 0) = false := by simp; omega
            have e2 : (m : Int) = n / 64 := by omega
            clear e hev
            have E2 : Hid ((m : Int) = n / 64) := e2
            clear e2
            go_wp2
            go_meet
            exact ⟨by rw [E2.out], rfl⟩
          · have e1 : (n % 64 != 0) = true := by simp; omega
            have e2 : (m : Int) = n / 64 + 1 := by omega
            clear e hev
            have E2 : Hid ((m : Int) = n / 64 + 1) := e2
            clear e2
            go_wp2
            go_meet
            exact ⟨by rw [E2.out], rfl⟩
      case rest =>
        obtain ⟨rfl, rfl⟩ := hcut
        have hop := row_open HW.out
        go_wp2
        go_loopw [8] (fun i wr => ∃ k q : Nat, k ≤ m ∧ i = .int .i64 k ∧ wr = wc.drewN q) (fun i _ => m - (intOf i).toNat)
        case atStart => exact ⟨0, 0, Nat.zero_le _, rfl, rfl⟩
        case round =>
          obtain ⟨k, q, hk, rfl, hwr⟩ := hrel
          have HWR : Hid (wr = wc.drewN q) := hwr
          clear hwr
          have HOP : Hid (0 < len0 → ∃ b off, a0 = some ⟨b, off, none⟩ ∧ b < w.heap.size ∧ ∀ j, j < len0 → w.cell? ⟨b, off + j, none⟩ = some (.int .u64 (z0.getD j 0))) := hop
          clear hop
          by_cases hlt : k < m
          · obtain ⟨b, off, rfl, hbw, hca⟩ := HOP.out (by omega)
            have hy : wr.cell? ⟨w.heap.size, k, none⟩ = some (.int .u64 (Y k)) := by rw [HWR.out]; exact hok.out.low k hlt
            have hz : wr.cell? ⟨b, off + k, none⟩ = some (.int .u64 (z0.getD k 0)) := by rw [HWR.out]; exact (hb3.cell (p := ⟨b, off + k, none⟩) hbw).trans (hca k (by omega))
            have hE := hok.out.exp k hlt
            have HE : Hid (Exp n (fun j => z0.getD j 0) Y k) := hE
            have HZ : Hid (wr.cell? ⟨b, off + k, none⟩ = some (.int .u64 (z0.getD k 0))) := hz
            clear hE hz hca
            obtain ⟨yk, hyk⟩ : ∃ yk, Y k = yk := ⟨_, rfl⟩
            rw [hyk] at hy
            have HYK : Hid (Y k = yk) := hyk
            clear hyk
            have hi1 : (k : Int) < (m : Int) := by omega
            have hi2 : (k : Int) < (len0 : Int) := by omega
            go_wp2_with fail
            have HX : Hid (∀ nq, Calls Yba.prog 8 #[.slice (some ⟨b, off, none⟩) len0 cap0, .int .i64 n, .int .i64 k] (wr.drewN nq) fun e w' => e = .returned (.int .u64 yk) ∧ w' = wr.drewN nq) := by
              intro nq
              have := exp_all b off len0 cap0 n k (fun j => z0.getD j 0) Y (wr.drewN nq) hl (by omega) hn HE.out HZ.out
              rw [HYK.out] at this
              exact this
            go_quiet ((go_at_call 8; refine Calls.quiet_of_same (HX.out _)))
            go_wp2
            go_quiet (fail)
            go_wp2
            go_roundw
            case rel => exact ⟨k + 1, _, by omega, by go_num, by rw [HWR.out, World.drewN_drewN]⟩
            case measure => simp [intOf]; omega
          · go_wp2
            go_loopw [9] (fun i wr => ∃ k q : Nat, m ≤ k ∧ k ≤ len0 ∧ i = .int .i64 k ∧ wr = wc.drewN q) (fun i _ => len0 - (intOf i).toNat)
            case atStart => exact ⟨m, q, Nat.le_refl _, hm, rfl, HWR.out⟩
            case round =>
              clear HWR
              obtain ⟨j, q2, hmj, hj, rfl, hwr⟩ := hrel
              have HWR : Hid (wr = wc.drewN q2) := hwr
              clear hwr
              by_cases hjl : j < len0
              · obtain ⟨b, off, rfl, hbw, hca⟩ := HOP.out (by omega)
                have hy : wr.cell? ⟨w.heap.size, j, none⟩ = some (.int .u64 (z0.getD j 0)) := by rw [HWR.out]; exact hok.out.rest j hmj hjl
                have hz : wr.cell? ⟨b, off + j, none⟩ = some (.int .u64 (z0.getD j 0)) := by rw [HWR.out]; exact (hb3.cell (p := ⟨b, off + j, none⟩) hbw).trans (hca j (by omega))
                clear hca
                generalize z0.getD j 0 = zj at hy hz
                have hi2 : (j : Int) < (len0 : Int) := by omega
                go_wp2_with fail
                go_quiet (fail)
                go_wp2
                go_roundw
                case rel => exact ⟨j + 1, _, by omega, by omega, by go_num, by rw [HWR.out, World.drewN_drewN]⟩
                case measure => simp [intOf]; omega
              · go_wp2
                go_ret
                exact ⟨rfl, by rw [HWR.out]; exact below_drewN hb3 _⟩
    · have hl' : ¬ (1024 : Int) < len0 := by omega
      have h0' : n < 0 := by omega
      go_enter Yba.func4, Yba.ntmps4
      go_wp2
      go_ret
      exact ⟨rfl, Below.refl _ _⟩
  · have hl' : (1024 : Int) < len0 := by omega
    go_enter Yba.func4, Yba.ntmps4
    go_wp2
    go_ret
    exact ⟨rfl, Below.refl _ _⟩

end Go.Proofs.Ybulkhwo

import Derived.Test.YbulkhwoDoorRows
import Derived.Test.YbulkhwoDoorPl
import Derived.WalkKit
import Derived.WalkSpells
import Derived.WalkLawsBesides
import Derived.Deep.QuietTactic
import Derived.BigQuiet
import Derived.BigRegion
import Derived.Deep.DeepCutAuto
namespace Go.Proofs.YbulkhwoDoor
open Go.RowKit

/-- The table 'digitPairs' in block 0. -/
def pairD (i : Nat) : Nat := if i % 2 = 0 then 48 + i / 2 / 10 else 48 + i / 2 % 10
def Pairs (w : World) : Prop := ∀ i, i < 200 → w.cell? ⟨0, i, none⟩ = some (.int .u8 (pairD i))

theorem and57 (t : Nat) (h : t < 18446744073709551616) : bits .and .u64 (t : Int) 144115188075855871 = ((t % 144115188075855872 : Nat) : Int) := by
  have h1 := u64_and_nat t 144115188075855871 h (by omega)
  have h2 : t &&& 144115188075855871 = t % 144115188075855872 := Nat.and_two_pow_sub_one_eq_mod t 57
  rw [h2] at h1
  exact h1

/-- Behind the first m of nine digits. -/
structure NineTo (b off y m : Nat) (w wr : World) : Prop where
  cells : ∀ i, i < m → wr.cell? ⟨b, off + i, none⟩ = some (.int .u8 (Dg y i))
  any : ∀ i, i < 9 → ∃ v, wr.cell? ⟨b, off + i, none⟩ = some v
  other : ∀ p : Addr, (p.block ≠ b ∨ p.off < off ∨ off + 9 ≤ p.off) → wr.cell? p = w.cell? p
  frozen : ∀ p, wr.frozen? p = w.frozen? p
  size : wr.heap.size = w.heap.size
  below : Below b w wr

theorem NineTo.start {b off y : Nat} {w : World} (hc : ∀ i, i < 9 → ∃ v, w.cell? ⟨b, off + i, none⟩ = some v) : NineTo b off y 0 w w :=
  ⟨fun i hi => absurd hi (by omega), hc, fun _ _ => rfl, fun _ => rfl, rfl, Below.refl _ _⟩

theorem NineTo.drew {b off y m : Nat} {w wr : World} (h : NineTo b off y m w wr) : NineTo b off y m w wr.drew :=
  ⟨h.cells, h.any, h.other, h.frozen, h.size, h.below.drew⟩

theorem NineTo.put {b off y m : Nat} {w wr : World} (h : NineTo b off y m w wr) (hm : m < 9) (d : Int) (hd : d = (Dg y m : Int)) : NineTo b off y (m + 1) w (wr.setCell ⟨b, off + m, none⟩ (.int .u8 d)) := by
  subst hd
  refine ⟨fun i hi => ?_, fun i hi => ?_, fun p hp => ?_, fun p => ?_, ?_, h.below.setCell (Nat.le_refl _) _⟩
  · by_cases e : i = m
    · subst e
      obtain ⟨v, hv⟩ := h.any i hm
      exact World.cell?_setCell_same _ _ _ hv
    · rw [World.cell?_setCell_other _ _ _ _ (by intro hx; injection hx; omega)]
      exact h.cells i (by omega)
  · by_cases e : i = m
    · subst e
      obtain ⟨v, hv⟩ := h.any i hm
      exact ⟨_, World.cell?_setCell_same _ _ _ hv⟩
    · rw [World.cell?_setCell_other _ _ _ _ (by intro hx; injection hx; omega)]
      exact h.any i hi
  · rw [World.cell?_setCell_other _ _ _ _ (by
      intro hx
      subst hx
      rcases hp with hp | hp | hp
      · exact hp rfl
      · have : off + m < off := hp
        omega
      · have : off + 9 ≤ off + m := hp
        omega)]
    exact h.other p hp
  · rw [World.frozen?_setCell]; exact h.frozen p
  · rw [World.size_setCell]; exact h.size

set_option maxHeartbeats 1000000 in
theorem nine_any (b off len cap y : Nat) (w : World) (hb : 0 < b) (hl : 9 ≤ cap) (hy : y < 1000000000) (hP : Pairs w)
   (hc : ∀ i, i < 9 → ∃ v, w.cell? ⟨b, off + i, none⟩ = some v) (hf : ∀ i, i < 9 → w.frozen? ⟨b, off + i, none⟩ = false) :
    Calls Ybad.prog 8 #[.slice (some ⟨b, off, none⟩) len cap, .int .u32 y] w fun e w' => e = .returned (.tuple #[]) ∧ NineTo b off y 9 w w' := by
  have HP : Hid (Pairs w) := hP
  have HC : Hid (∀ i, i < 9 → ∃ v, w.cell? ⟨b, off + i, none⟩ = some v) := hc
  have HF : Hid (∀ i, i < 9 → w.frozen? ⟨b, off + i, none⟩ = false) := hf
  obtain ⟨v0, h0⟩ := hc 0 (by omega)
  have f0 := hf 0 (by omega)
  rw [Nat.add_zero] at h0 f0
  clear hc hf hP
  go_enter Ybad.func8, Ybad.ntmps8
  go_wp2
  go_loopw [4, 5] (fun t i wr => ∃ k : Nat, k ≤ 4 ∧ t = .int .u64 (T y k) ∧ i = .int .i64 (2 * k + 1 : Nat) ∧ NineTo b off y (2 * k + 1) w wr) (fun _ i _ => 10 - (intOf i).toNat)
  case atStart =>
    refine ⟨0, by omega, by rw [T_zero]; go_num, by go_num, ?_⟩
    have := (NineTo.start (y := y) HC.out).put (by omega) (48 + (y : Int) * 1441151881 / 144115188075855872) (by rw [← Dg0 y hy, T_zero]; omega)
    simpa using this
  case round =>
    obtain ⟨k, hk, rfl, rfl, hN0⟩ := hrel
    have hN : Hid (NineTo b off y (2 * k + 1) w wr) := hN0
    clear hN0 h0 f0
    by_cases hlt : k < 4
    · obtain ⟨t, ht⟩ : ∃ t, T y k = t := ⟨_, rfl⟩
      have htl := T_lt y k hy
      rw [ht] at htl
      rw [ht]
      have hand := and57 t htl.1
      obtain ⟨m, hm⟩ : ∃ m, t % 144115188075855872 = m := ⟨_, rfl⟩
      have hml : m < 144115188075855872 := by omega
      rw [hm] at hand
      have hT : Hid (T y (k + 1) = m * 100) := by
        show _ = _
        rw [T_succ, ht, hm]
      have hpl := T_pair_lt y (k + 1) hy (by omega) (by omega)
      have hdg := Dg_pair y (k + 1) hy (by omega) (by omega)
      rw [hT.out] at hpl hdg
      obtain ⟨p, hp⟩ : ∃ p, m * 100 / 144115188075855872 = p := ⟨_, rfl⟩
      rw [hp] at hpl hdg
      have hp' : (m : Int) * 100 / 144115188075855872 = (p : Int) := by omega
      have c1 : wr.cell? ⟨0, p * 2, none⟩ = some (.int .u8 (pairD (p * 2))) := by
        rw [hN.out.other _ (Or.inl (by show 0 ≠ b; omega))]
        exact HP.out _ (by omega)
      have c2 : wr.cell? ⟨0, p * 2 + 1, none⟩ = some (.int .u8 (pairD (p * 2 + 1))) := by
        rw [hN.out.other _ (Or.inl (by show 0 ≠ b; omega))]
        exact HP.out _ (by omega)
      have e1 : pairD (p * 2) = Dg y (2 * k + 1) := by unfold pairD; rw [if_pos (by omega)]; have := hdg.1; rw [show 2 * (k + 1) - 1 = 2 * k + 1 by omega] at this; omega
      have e2 : pairD (p * 2 + 1) = Dg y (2 * k + 1 + 1) := by unfold pairD; rw [if_neg (by omega)]; have := hdg.2; rw [show 2 * (k + 1) = 2 * k + 1 + 1 by omega] at this; omega
      rw [e1] at c1
      rw [e2] at c2
      obtain ⟨v1, g1⟩ := hN.out.any (2 * k + 1) (by omega)
      obtain ⟨v2, g2⟩ := hN.out.any (2 * k + 1 + 1) (by omega)
      have z1 : wr.frozen? ⟨b, off + (2 * k + 1), none⟩ = false := by rw [hN.out.frozen]; exact HF.out _ (by omega)
      have z2 : wr.frozen? ⟨b, off + (2 * k + 1 + 1), none⟩ = false := by rw [hN.out.frozen]; exact HF.out _ (by omega)
      generalize hd1 : Dg y (2 * k + 1) = d1 at *
      generalize hd2 : Dg y (2 * k + 1 + 1) = d2 at *
      generalize hq : 2 * k + 1 = q at *
      have Hq : Hid (2 * k + 1 = q) := hq
      have hq8 : q < 8 := by omega
      have D1 : Hid (Dg y q = d1) := hd1
      have D2 : Hid (Dg y (q + 1) = d2) := hd2
      clear hdg hp hm htl ht e1 e2 hq hd1 hd2
      go_wp2
      go_region
      go_wp2
      go_roundw
      case rel =>
        refine ⟨k + 1, by omega, by rw [hT.out]; go_num, by rw [show 2 * (k + 1) + 1 = q + 2 by have := Hq.out; omega]; go_num, ?_⟩
        have e3 : 2 * (k + 1) + 1 = q + 1 + 1 := by have := Hq.out; omega
        rw [e3]
        exact ((hN.out.put (by omega) (d1 : Int) (by rw [D1.out])).put (by omega) (d2 : Int) (by rw [D2.out])).drew
      case measure => simp [intOf]; omega
    · obtain rfl : k = 4 := by omega
      go_wp2
      go_end0
      exact ⟨rfl, hN.out⟩

end Go.Proofs.YbulkhwoDoor

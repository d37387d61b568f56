import Derived.Test.YbulkhwoRows
import Derived.Test.YbulkhwoPl
import Derived.WalkKit
import Derived.WalkSpells
import Derived.WalkLawsBesides
import Derived.Deep.QuietTactic
import Derived.BigQuiet
namespace Go.Proofs.Ybulkhwo
open Go.RowKit

/-- The digit set's 256 cells in block b. -/
def Tab (w : World) (b : Nat) (d : Nat → Bool) : Prop := ∀ t, t < 256 → w.cell? ⟨b, t, none⟩ = some (.bool (d t))

set_option maxHeartbeats 400000 in
theorem all_any (s : ByteArray) (b : Nat) (d : Nat → Bool) (w : World) (hs : s.size ≤ 1024) (hT : Tab w b d) (hall : ∀ k (h : k < s.size), d (s[k]).toNat = true) :
    Calls Yba.prog 6 #[.string s, .pointer (some ⟨b, 0, none⟩)] w fun e w' => e = .returned (.bool true) ∧ ∃ n, w' = w.drewN n := by
  go_enter Yba.func6, Yba.ntmps6
  go_wp2
  go_loopw [5] (fun i wr => ∃ k n : Nat, k ≤ s.size ∧ i = .int .i64 k ∧ wr = w.drewN n) (fun i _ => s.size - (intOf i).toNat)
  case atStart => exact ⟨0, 0, Nat.zero_le _, rfl, rfl⟩
  case round =>
    obtain ⟨k, n, hk, rfl, rfl⟩ := hrel
    by_cases hlt : k < s.size
    · have hb : (s[k]).toNat < 256 := (s[k]).toNat_lt
      have hc : w.cell? ⟨b, (s[k]).toNat, none⟩ = some (.bool true) := by rw [hT _ hb, hall k hlt]
      clear hall hT
      go_wp2
      go_wp2_with fail
      go_quiet (fail)
      go_wp2
      go_roundw
      case rel => exact ⟨k + 1, _, by omega, by go_num, rfl⟩
      case measure => simp [intOf]; omega
    · clear hall hT
      go_wp2
      go_ret
      exact ⟨rfl, n, rfl⟩

set_option maxHeartbeats 1000000 in
theorem split_any (s : ByteArray) (b : Nat) (d : Nat → Bool) (w : World) (hs : s.size ≤ 1024) (hT : Tab w b d) :
    Calls Yba.prog 5 #[.string s, .pointer (some ⟨b, 0, none⟩)] w fun e w' => ∃ W F R : ByteArray, e = .returned (.tuple #[.string W, .string F, .string R]) ∧
      SplitOk d s.data.toList W.data.toList F.data.toList R.data.toList ∧ ∃ n, w' = w.drewN n := by
  go_enter Yba.func5, Yba.ntmps5
  go_wp2
  go_loopw [7] (fun i wr => ∃ k n : Nat, k ≤ s.size ∧ i = .int .i64 k ∧ wr = w.drewN n ∧ ∀ j (hj : j < s.size), j < k → d (s[j]).toNat = true) (fun i _ => s.size - (intOf i).toNat)
  case atStart => exact ⟨0, 0, Nat.zero_le _, rfl, rfl, fun j hj h => absurd h (by omega)⟩
  case round =>
    obtain ⟨k, n, hk, rfl, rfl, hd0⟩ := hrel
    have hd : Hid (∀ j (hj : j < s.size), j < k → d (s[j]).toNat = true) := hd0
    have HT : Hid (Tab w b d) := hT
    clear hd0 hT
    by_cases hlt : k < s.size
    · have hb : (s[k]).toNat < 256 := (s[k]).toNat_lt
      have hlt' : (k : Int) < (s.size : Int) := by omega
      by_cases hc1 : d (s[k]).toNat = true
      · have hc : w.cell? ⟨b, (s[k]).toNat, none⟩ = some (.bool true) := by rw [HT.out _ hb, hc1]
        have hd2 : Hid (∀ j (hj : j < s.size), j < k + 1 → d (s[j]).toNat = true) := by
          intro j hj h
          by_cases e : j = k
          · subst e; exact hc1
          · exact hd.out j hj (by omega)
        clear hc1
        go_wp2_with fail
        go_quiet (fail)
        go_wp2
        go_roundw
        case rel => exact ⟨k + 1, _, by omega, by go_num, rfl, hd2.out⟩
        case measure => simp [intOf]; omega
      · have hc2 : d (s[k]).toNat = false := by simpa using hc1
        have hc : w.cell? ⟨b, (s[k]).toNat, none⟩ = some (.bool false) := by rw [HT.out _ hb, hc2]
        clear hc1
        have HC : Hid (d (s[k]).toNat = false) := hc2
        clear hc2
        go_wp2_with fail
        go_quiet (fail)
        go_wp2
        go_quiet (fail)
        obtain ⟨r, hr⟩ : ∃ r, s.extract k s.size = r := ⟨_, rfl⟩
        rw [hr]
        have hz : r.size = s.size - k := by rw [← hr]; simp
        have HR : Hid (s.extract k s.size = r) := hr
        have h0 : 0 < r.size := by omega
        have hr1 : r.size ≤ 1024 := by omega
        have he : r.toList.isEmpty = false := by
          cases hl : r.toList.isEmpty
          · rfl
          · have h1 : r.toList = [] := by simpa using hl
            have h2 : r.data.toList.length = r.size := by simp
            rw [ByteArray.toList_eq] at h1
            rw [h1] at h2; simp at h2; omega
        clear hr hz
        by_cases h46 : ((r[0].toNat : Int) != 46) = true
        · have hn : Hid (r[0] ≠ 46) := by
            intro h; rw [h] at h46; simp at h46
          go_wp2
          go_ret3
          exact ⟨_, _, _, rfl, split_none' d s r k hlt HR.out hd.out HC.out h0 hn.out, _, rfl⟩
        · have h46' : ((r[0].toNat : Int) != 46) = false := by simpa using h46
          have hn : Hid (r[0] = 46) := by
            have h : (r[0].toNat : Int) = 46 := by simpa using h46'
            exact UInt8.toNat_inj.1 (by simp; omega)
          clear h46
          go_wp2
          go_loopw [7] (fun i wr => ∃ m n : Nat, 1 ≤ m ∧ m ≤ r.size ∧ i = .int .i64 m ∧ wr = w.drewN n ∧ ∀ j (hj : j < r.size), 1 ≤ j → j < m → d (r[j]).toNat = true) (fun i _ => r.size - (intOf i).toNat)
          case atStart => exact ⟨1, _, Nat.le_refl _, h0, rfl, rfl, fun j hj h h' => absurd h (by omega)⟩
          case round =>
            obtain ⟨m, n2, hm1, hm2, rfl, rfl, hd0⟩ := hrel
            have hdm : Hid (∀ j (hj : j < r.size), 1 ≤ j → j < m → d (r[j]).toNat = true) := hd0
            clear hd0
            by_cases hmt : m < r.size
            · have hbm : (r[m]).toNat < 256 := (r[m]).toNat_lt
              have hmt' : (m : Int) < (r.size : Int) := by omega
              by_cases hc1 : d (r[m]).toNat = true
              · have hcm : w.cell? ⟨b, (r[m]).toNat, none⟩ = some (.bool true) := by rw [HT.out _ hbm, hc1]
                have hd2 : Hid (∀ j (hj : j < r.size), 1 ≤ j → j < m + 1 → d (r[j]).toNat = true) := by
                  intro j hj h1 h
                  by_cases e : j = m
                  · subst e; exact hc1
                  · exact hdm.out j hj h1 (by omega)
                clear hc1
                go_wp2_with fail
                go_quiet (fail)
                go_wp2
                go_roundw
                case rel => exact ⟨m + 1, _, by omega, by omega, by go_num, rfl, hd2.out⟩
                case measure => simp [intOf]; omega
              · have hc2 : d (r[m]).toNat = false := by simpa using hc1
                have hcm : w.cell? ⟨b, (r[m]).toNat, none⟩ = some (.bool false) := by rw [HT.out _ hbm, hc2]
                clear hc1
                have HCM : Hid (d (r[m]).toNat = false) := hc2
                clear hc2
                go_wp2_with fail
                go_quiet (fail)
                go_wp2
                go_quiet (fail)
                go_wp2
                go_ret3
                exact ⟨_, _, _, rfl, split_point' d s r k m hlt HR.out hd.out h0 hn.out hm1 hdm.out (fun _ => HCM.out), _, by rw [World.drewN_drewN, World.drewN_drewN]⟩
            · have hmt' : decide ((m : Int) < (r.size : Int)) = false := by simp; omega
              have hge : r.size ≤ m := by omega
              go_wp2_with fail
              go_quiet (fail)
              go_wp2
              go_quiet (fail)
              go_wp2
              go_ret3
              exact ⟨_, _, _, rfl, split_point' d s r k m hlt HR.out hd.out h0 hn.out hm1 hdm.out (fun h => absurd h hmt), _, by rw [World.drewN_drewN, World.drewN_drewN]⟩
    · have hlt' : decide ((k : Int) < (s.size : Int)) = false := by simp; omega
      go_wp2_with fail
      go_quiet (fail)
      go_wp2
      obtain rfl : k = s.size := by omega
      go_quiet (fail)
      go_wp2
      go_ret3
      exact ⟨_, _, _, rfl, split_end d s hd.out, _, rfl⟩

end Go.Proofs.Ybulkhwo

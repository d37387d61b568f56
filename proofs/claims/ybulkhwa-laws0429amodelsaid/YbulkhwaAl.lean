import Derived.Test.YbulkhwaVd
namespace Go.Proofs.Ybulkhwa
open Go.RowKit

/-- does another of the first j transactions hold item k? exclusively? -/
def othTo (m : Nat → Int) (t k : Nat) : Nat → Bool
  | 0 => false
  | j + 1 => othTo m t k j || (decide (j ≠ t) && decide (m (j * 3 + k) ≠ 0))
def othX (m : Nat → Int) (t k : Nat) : Nat → Bool
  | 0 => false
  | j + 1 => othX m t k j || (decide (j ≠ t) && decide (m (j * 3 + k) = 2))

/-- 'zzs0429aallowed', plainly -/
def allowF (m : Nat → Int) (t k : Nat) (want : Int) : Bool :=
  if m (t * 3 + k) = 2 then false else if m (t * 3 + k) = 1 then (if want = 1 then false else !othTo m t k 3) else (if want = 1 then !othX m t k 3 else !othTo m t k 3)

set_option maxHeartbeats 1000000 in
theorem allow_any (bM t k : Nat) (m : Nat → Int) (want : Int) (w : World) (ht : t < 3) (hk : k < 3) (hM : Row w bM 9 (u8s m)) (hm : ∀ j, j < 9 → m j = 0 ∨ m j = 1 ∨ m j = 2) (hw : want = 1 ∨ want = 2) :
    Calls Yba.prog 7 #[.pointer (some ⟨bM, 0, none⟩), .int .i64 t, .int .i64 k, .int .u8 want] w fun e w' => e = .returned (.bool (allowF m t k want)) ∧ w' = w := by
  have HM : Hid (Row w bM 9 (u8s m)) := hM
  have Hm : Hid (∀ j, j < 9 → m j = 0 ∨ m j = 1 ∨ m j = 2) := hm
  have HW : Hid (want = 1 ∨ want = 2) := hw
  clear hM hm hw
  go_enter Yba.func7, Yba.ntmps7
  go_wp2
  go_loop [9, 10, 11] (fun x y i => ∃ j : Nat, j ≤ 3 ∧ i = .int .i64 j ∧ x = .bool (othTo m t k j) ∧ y = .bool (othX m t k j)) (fun _ _ i => 3 - (intOf i).toNat)
  case atStart => exact ⟨0, by omega, rfl, rfl, rfl⟩
  case round =>
    obtain ⟨j, hj, rfl, rfl, rfl⟩ := hrel
    by_cases hlt : j < 3
    · have d1 : Hid (othTo m t k (j + 1) = (othTo m t k j || (decide (j ≠ t) && decide (m (j * 3 + k) ≠ 0)))) := rfl
      have d2 : Hid (othX m t k (j + 1) = (othX m t k j || (decide (j ≠ t) && decide (m (j * 3 + k) = 2)))) := rfl
      generalize othTo m t k j = A at *
      generalize othX m t k j = B at *
      by_cases hjt : j = t
      · have e : ((j : Int) == (t : Int)) = true := by simp [hjt]
        have D1 : Hid (othTo m t k (j + 1) = A) := by show _ = _; rw [d1.out]; simp [hjt]
        have D2 : Hid (othX m t k (j + 1) = B) := by show _ = _; rw [d2.out]; simp [hjt]
        clear hjt d1 d2
        go_wp2
        go_round
        case rel => exact ⟨j + 1, by omega, by go_num, by rw [D1.out], by rw [D2.out]⟩
        case measure => simp [intOf]; omega
      · have e : ((j : Int) == (t : Int)) = false := by simp; omega
        have c : w.cell? ⟨bM, j * 3 + k, none⟩ = some (.int .u8 (m (j * 3 + k))) := HM.out.cell _ (by omega)
        have hj3 : (j : Int) < 3 := by omega
        have hk3 : (k : Int) < 3 := by omega
        rcases Hm.out (j * 3 + k) (by omega) with hv | hv | hv
        · rw [hv] at c
          have D1 : Hid (othTo m t k (j + 1) = A) := by show _ = _; rw [d1.out]; simp [hv]
          have D2 : Hid (othX m t k (j + 1) = B) := by show _ = _; rw [d2.out]; simp [hv]
          clear hv d1 d2 hjt
          go_wp2
          go_round
          case rel => exact ⟨j + 1, by omega, by go_num, by rw [D1.out], by rw [D2.out]⟩
          case measure => simp [intOf]; omega
        · rw [hv] at c
          have D1 : Hid (othTo m t k (j + 1) = true) := by show _ = _; rw [d1.out]; simp [hv, hjt]
          have D2 : Hid (othX m t k (j + 1) = B) := by show _ = _; rw [d2.out]; simp [hv]
          clear hv d1 d2 hjt
          go_wp2
          go_round
          case rel => exact ⟨j + 1, by omega, by go_num, by rw [D1.out], by rw [D2.out]⟩
          case measure => simp [intOf]; omega
        · rw [hv] at c
          have D1 : Hid (othTo m t k (j + 1) = true) := by show _ = _; rw [d1.out]; simp [hv, hjt]
          have D2 : Hid (othX m t k (j + 1) = true) := by show _ = _; rw [d2.out]; simp [hv, hjt]
          clear hv d1 d2 hjt
          go_wp2
          go_round
          case rel => exact ⟨j + 1, by omega, by go_num, by rw [D1.out], by rw [D2.out]⟩
          case measure => simp [intOf]; omega
    · obtain rfl : j = 3 := by omega
      have c : w.cell? ⟨bM, t * 3 + k, none⟩ = some (.int .u8 (m (t * 3 + k))) := HM.out.cell _ (by omega)
      have ht3 : (t : Int) < 3 := by omega
      have hk3 : (k : Int) < 3 := by omega
      have da : Hid (allowF m t k want = if m (t * 3 + k) = 2 then false else if m (t * 3 + k) = 1 then (if want = 1 then false else !othTo m t k 3) else (if want = 1 then !othX m t k 3 else !othTo m t k 3)) := rfl
      generalize othTo m t k 3 = A at *
      generalize othX m t k 3 = B at *
      rcases HW.out with rfl | rfl
      · rcases Hm.out (t * 3 + k) (by omega) with hv | hv | hv
        all_goals
          rw [hv] at c
          have HV : Hid (m (t * 3 + k) = _) := hv
          clear hv
          go_wp2
          go_ret
          exact ⟨ret_b (by rw [da.out, HV.out]; simp), rfl⟩
      · rcases Hm.out (t * 3 + k) (by omega) with hv | hv | hv
        all_goals
          rw [hv] at c
          have HV : Hid (m (t * 3 + k) = _) := hv
          clear hv
          go_wp2
          go_ret
          exact ⟨ret_b (by rw [da.out, HV.out]; simp), rfl⟩

end Go.Proofs.Ybulkhwa

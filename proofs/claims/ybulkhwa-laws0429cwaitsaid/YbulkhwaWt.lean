import Derived.Test.YbulkhwaRw
namespace Go.Proofs.Ybulkhwa
open Go.RowKit Go.Pool

set_option maxRecDepth 100000 in
set_option maxHeartbeats 2000000 in
/-- 'wait': by what 'reportWait' and 'join' do -/
theorem wait_glue (C LI LO N t : Nat) (left cur : Int) (w : World) (ht : t < N) (c16 : w.cell? ⟨C, 16, none⟩ = some (.slice (some ⟨LI, 0, none⟩) N N)) (c3 : w.cell? ⟨C, 3, none⟩ = some (.slice (some ⟨LO, 0, none⟩) N N)) (lo : w.cell? ⟨LO, t, none⟩ = some (.int .i32 t)) (li : w.cell? ⟨LI, t, none⟩ = some (.int .i32 0))
    (hc : CurOk C w cur) (R J : World → Prop)
    (hrep : (left < 0 ∨ cur ≠ left) → ∀ q, Calls Yba.prog 19 #[.pointer (some ⟨C, 0, none⟩), .int .i32 t, .int .i32 t] (w.drewN q) fun e w' => e = .returned (.tuple #[]) ∧ R w')
    (hno : ¬ (left < 0 ∨ cur ≠ left) → ∀ q, R (w.drewN q))
    (hjoin : ∀ w1, R w1 → Calls Yba.prog 20 #[.pointer (some ⟨C, 0, none⟩), .int .i32 t, .int .i32 0] w1 fun e w' => e = .returned (.tuple #[]) ∧ J w') :
    Calls Yba.prog 11 #[.pointer (some ⟨C, 0, none⟩), .int .i32 t, .int .i32 t, .int .i32 left] w fun e w' => e = .returned (.tuple #[]) ∧ J w' := by
  have HC : Hid (CurOk C w cur) := hc
  have HR : Hid ((left < 0 ∨ cur ≠ left) → ∀ q, Calls Yba.prog 19 #[.pointer (some ⟨C, 0, none⟩), .int .i32 t, .int .i32 t] (w.drewN q) fun e w' => e = .returned (.tuple #[]) ∧ R w') := hrep
  have HN : Hid (¬ (left < 0 ∨ cur ≠ left) → ∀ q, R (w.drewN q)) := hno
  have HJ : Hid (∀ w1, R w1 → Calls Yba.prog 20 #[.pointer (some ⟨C, 0, none⟩), .int .i32 t, .int .i32 0] w1 fun e w' => e = .returned (.tuple #[]) ∧ J w') := hjoin
  clear hc hrep hno hjoin
  go_enter Yba.func11, Yba.ntmps11
  go_wp2_with fail
  go_quiet (fail)
  by_cases hl : left < 0
  · have HLL : Hid (left < 0) := hl
    go_wp2_with fail
    refine (HR.out (Or.inl HLL.out) _).mono ?_
    rintro e w1 ⟨rfl, h1⟩
    have H1 : Hid (R w1) := h1
    clear h1
    go_wp2_with fail
    refine (HJ.out w1 H1.out).mono ?_
    rintro e w2 ⟨rfl, h2⟩
    have H2 : Hid (J w2) := h2
    clear h2
    go_wp2
    go_end0
    exact ⟨rfl, H2.out⟩
  · by_cases hcl : cur = left
    · have HLL : Hid (¬ (left < 0 ∨ cur ≠ left)) := fun h => h.elim hl (fun k => k hcl)
      have hb : (cur != left) = false := by simp [hcl]
      go_wp2_with fail
      refine (current_any _ _ _ (HC.out.drewN _)).mono ?_
      rintro e w1 ⟨rfl, q, rfl⟩
      rw [World.drewN_drewN]
      go_wp2_with fail
      refine (HJ.out _ (HN.out HLL.out _)).mono ?_
      rintro e w2 ⟨rfl, h2⟩
      have H2 : Hid (J w2) := h2
      clear h2
      go_wp2
      go_end0
      exact ⟨rfl, H2.out⟩
    · have HLL : Hid (left < 0 ∨ cur ≠ left) := Or.inr hcl
      have hb : (cur != left) = true := by simp [hcl]
      go_wp2_with fail
      refine (current_any _ _ _ (HC.out.drewN _)).mono ?_
      rintro e w1 ⟨rfl, q, rfl⟩
      rw [World.drewN_drewN]
      go_wp2_with fail
      refine (HR.out HLL.out _).mono ?_
      rintro e w1 ⟨rfl, h1⟩
      have H1 : Hid (R w1) := h1
      clear h1
      go_wp2_with fail
      refine (HJ.out w1 H1.out).mono ?_
      rintro e w2 ⟨rfl, h2⟩
      have H2 : Hid (J w2) := h2
      clear h2
      go_wp2
      go_end0
      exact ⟨rfl, H2.out⟩

end Go.Proofs.Ybulkhwa

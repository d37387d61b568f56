import Derived.Test.YbulkhwaL4
import Derived.Deep.Slices
import Derived.ProofKit
import Derived.OpenShut
import Derived.ChangeOld
import Derived.Below
namespace Go.Proofs.Ybulkhwa
open Go.ChangeShapes Go.WideShapes Go.ChangeAt Go.RowKit Go.Deep

set_option maxRecDepth 100000 in
theorem law4_long (v0 v1 v2 v4 v5 v6 v7 v8 v9 v10 : Value) (fr : Bool) (p : Option Addr) (n cap : Nat) (w : World) (hn : 1024 < n) : Calls Yba.prog 4 #[v0, v1, v2, .slice p n cap, v4, v5, v6, v7, v8, v9, v10, .bool fr] w fun e w' => e = .returned (.bool true) ∧ Only [] w w' := by
  have hn' : (1024 : Int) < (n : Int) := by omega
  go_enter Yba.func4, Yba.ntmps4
  go_wp2
  go_ret
  exact ⟨rfl, (Only.refl _ _).alloc _⟩

theorem u8_of {n : Int} (h : (Lit.int .u8 n).wf = true) : ∃ m : Nat, n = (m : Int) ∧ m < 256 := by
  simp [Lit.wf, IntKind.min, IntKind.max, IntKind.signed, IntKind.bits] at h
  exact ⟨n.toNat, by omega, by omega⟩

theorem u16_of {n : Int} (h : (Lit.int .u16 n).wf = true) : ∃ m : Nat, n = (m : Int) ∧ m < 65536 := by
  simp [Lit.wf, IntKind.min, IntKind.max, IntKind.signed, IntKind.bits] at h
  exact ⟨n.toNat, by omega, by omega⟩

theorem cells55 : Yba.prog.cellsOf 55 = 2 := by kernel_rfl
theorem cells5 : Yba.prog.cellsOf 5 = 1 := by kernel_rfl

set_option maxRecDepth 100000 in
/-- the holders that came in -/
theorem open_hs {H : Type} {enc : TypeId × Value → H} {W : World} {base : Nat} {spare : Nat → Bool} {held : Bool} {p : Option Addr} {n cap : Nat} {d : DataW H} {ps : List MemPlace}
    (h : DataW.Trod enc Yba.prog W base spare held 51 (.slice p n cap) d ps) : ∃ b off LL VV, (0 < n → p = some ⟨b, off, none⟩) ∧ HsAt b off n LL VV W := by
  obtain ⟨fuel, hf⟩ := h
  rcases open_slice Yba.underlying51 hf with ⟨hcs, _⟩ | ⟨a, len, cap', m, k, D, Pl, hcs, hb, hl, hm, hmm, _, hx⟩
  · simp [Value.cells] at hcs
    obtain ⟨rfl, rfl, rfl⟩ := hcs
    exact ⟨0, 0, fun _ => 0, fun _ => 0, fun h => absurd h (by omega), ⟨fun i hi => absurd hi (by omega), fun i hi => absurd hi (by omega), fun _ => by omega, fun _ => by omega, fun h => absurd h (by omega)⟩⟩
  · simp [Value.cells] at hcs
    obtain ⟨rfl, rfl, rfl⟩ := hcs
    have hlm : n ≤ m := by rw [hmm]; split <;> omega
    have each : ∀ i, i < n → ∃ q : Nat × Nat, (W.cell? (a.add (i * 2)) = some (.int .u8 q.1) ∧ W.cell? (a.add (i * 2 + 1)) = some (.int .u8 q.2)) ∧ q.1 < 256 ∧ q.2 < 256 := by
      intro i hi
      obtain ⟨cs', h1, h2⟩ := hx i (by omega)
      rw [cells55] at h1
      obtain ⟨_, hlen, hcell⟩ := World.cells?_some h1
      obtain ⟨xs, k', _, _, _, hxl, hfs⟩ := DataW.trod_struct Yba.underlying55 h2
      match xs, hxl, cs', hlen with
      | [y0, y1], _, [v0, v1], _ =>
        have g0 := hfs 0 _ rfl
        have g1 := hfs 1 _ rfl
        simp [cells5] at g0 g1
        obtain ⟨z0, e0, _, f0⟩ := DataW.trod_int Yba.underlying5 g0
        obtain ⟨z1, e1, _, f1⟩ := DataW.trod_int Yba.underlying5 g1
        obtain ⟨q0, rfl, l0⟩ := u8_of f0
        obtain ⟨q1, rfl, l1⟩ := u8_of f1
        simp only [List.cons.injEq, and_true] at e0 e1
        subst e0 e1
        have c0 := hcell 0 (by omega)
        have c1 := hcell 1 (by omega)
        rw [add_add] at c0 c1
        exact ⟨(q0, q1), ⟨by simpa using c0, by simpa using c1⟩, l0, l1⟩
    obtain ⟨q, hq⟩ := choose_lt each
    by_cases hn : n = 0
    · subst hn
      exact ⟨0, 0, fun _ => 0, fun _ => 0, fun h => absurd h (by omega), ⟨fun i hi => absurd hi (by omega), fun i hi => absurd hi (by omega), fun _ => by omega, fun _ => by omega, fun h => absurd h (by omega)⟩⟩
    · have hs : a.spot = none := by
        have := (hq 0 (by omega)).1.1
        exact World.cell?_spot (a := a) (by simpa [Addr.add] using this)
      obtain ⟨b, off, sp⟩ := a
      simp only at hs
      subst hs
      simp only [add_plain] at hq
      refine ⟨b, off, fun i => (q i).1 % 256, fun i => (q i).2 % 256, fun _ => rfl, ⟨fun i hi => ?_, fun i hi => ?_, fun _ => by omega, fun _ => by omega, fun _ => ?_⟩⟩
      · have := hq i hi
        rw [Nat.mod_eq_of_lt this.2.1]; exact this.1.1
      · have := hq i hi
        rw [Nat.mod_eq_of_lt this.2.2]; exact this.1.2
      · exact World.block_lt_of_cell? W ⟨b, off + 0 * 2, none⟩ (hq 0 (by omega)).1.1

end Go.Proofs.Ybulkhwa

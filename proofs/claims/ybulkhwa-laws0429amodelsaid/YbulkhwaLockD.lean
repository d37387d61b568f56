import Derived.Test.YbulkhwaStepU
namespace Go.Proofs.Ybulkhwa
open Go.RowKit

/-- the state behind a lock -/
def lockA (s : St) (u : Nat) (want : Int) : St := if s.lg = [] then grS s u want else s
def refu (s : St) (u : Nat) (want : Int) : Bool := decide (s.lg = []) && (grF (s.hd u) want (s.ho (u % 3)) (s.ex (u % 3))).isNone
def lock1 (s : St) (u i : Nat) (want : Int) : St := if refu s u want = true then { lockA s u want with lg := [i] } else lockA s u want
def lock2 (s : St) (t i : Nat) : St := if s.tp = [] ∧ 0 ≤ s.rl t then { s with tp := [(s.rl t).toNat, i] } else s
def lock3 (s : St) (u i : Nat) : St := if s.hd u = 0 then { s with la := upd s.la u i } else s
def lock4 (s : St) (u : Nat) (want : Int) : St := { s with hd := upd s.hd u (if s.hd u < want then want else s.hd u) }
def lockS (s : St) (u t i : Nat) (want : Int) : St := lock4 (lock3 (lock2 (lock1 s u i want) t i) u i) u want

theorem grS_hd (s : St) (u : Nat) (want : Int) : (grS s u want).hd = s.hd ∧ (grS s u want).rl = s.rl ∧ (grS s u want).tp = s.tp := by
  unfold grS
  cases grF (s.hd u) want (s.ho (u % 3)) (s.ex (u % 3)) <;> exact ⟨rfl, rfl, rfl⟩
theorem lock1_hd (s : St) (u i : Nat) (want : Int) : (lock1 s u i want).hd = s.hd ∧ (lock1 s u i want).rl = s.rl ∧ (lock1 s u i want).tp = s.tp := by
  have h := grS_hd s u want
  unfold lock1 lockA
  by_cases h1 : refu s u want = true <;> by_cases h2 : s.lg = [] <;> simp [h1, h2, h]
theorem lock2_hd (s : St) (t i : Nat) : (lock2 s t i).hd = s.hd := by
  unfold lock2
  by_cases h : s.tp = [] ∧ 0 ≤ s.rl t <;> simp [h]

theorem VOk.two {K : Bk} {S : Sch} {w w' : World} {p i bo ba : Nat} (h0 : K.N0 ≤ w.heap.size) (l1 : w.heap.size ≤ bo) (l2 : w.heap.size ≤ ba) (s1 : bo < w'.heap.size) (s2 : ba < w'.heap.size)
    (r1 : Row w' bo (3 * 2) (opCells (fun j => S.kd (if j = 0 then p else i)) (fun j => S.tx (if j = 0 then p else i)) (fun j => S.nm (if j = 0 then p else i)))) (r2 : Row w' ba 2 (fun j => .int .i64 ((if j = 0 then p else i : Nat) : Int))) :
    VOk K S w' (.slice (some ⟨bo, 0, none⟩) 2 2) (.slice (some ⟨ba, 0, none⟩) 2 2) [p, i] := by
  have e : ∀ j, j < 2 → (if j = 0 then p else i) = [p, i].getD j 0 := fun j hj => by
    have : j = 0 ∨ j = 1 := by omega
    rcases this with rfl | rfl <;> rfl
  refine Or.inr ⟨by simp, bo, ba, rfl, rfl, by omega, by omega, s1, s2, ?_, ?_⟩
  · refine r1.congr fun j hj => ?_
    have hj' : j / 3 < 2 := by omega
    simp only [opCells, e _ hj']
  · refine r2.congr fun j hj => ?_
    show Value.int .i64 _ = Value.int .i64 _
    rw [e j hj]

theorem verdict_two {K : Bk} {S : Sch} {V : Nat → Value} {w : World} {s : St} (h : CkOk K S V w s) (hK : K.Ok) (p i bA : Nat) (hp : p < K.n) (hi : i < K.n) (hA : w.cell? ⟨bA, 0, none⟩ = some (.int .i32 p)) (hA1 : w.cell? ⟨bA, 1, none⟩ = some (.int .i32 i)) :
    Calls Yba.prog 15 #[.pointer (some ⟨K.C, 0, none⟩), .slice (some ⟨bA, 0, none⟩) 2 2] w fun e w' => ∃ bo ba, e = .returned (.agg #[.slice (some ⟨bo, 0, none⟩) 2 2, .slice (some ⟨ba, 0, none⟩) 2 2]) ∧
      VOk K S w' (.slice (some ⟨bo, 0, none⟩) 2 2) (.slice (some ⟨ba, 0, none⟩) 2 2) [p, i] ∧ Only [] w w' := by
  refine (verdict_any K.C K.O bA K.n 2 (fun j => if j = 0 then p else i) S.kd S.tx S.nm w hK.n (by omega) ?_ (h.C.cell 0 (by omega)) h.O ?_).mono ?_
  · intro j _
    by_cases e : j = 0 <;> simp [e, hp, hi]
  · intro j hj
    have : j = 0 ∨ j = 1 := by omega
    rcases this with rfl | rfl
    · exact hA
    · exact hA1
  · rintro e w' ⟨bo, ba, rfl, l1, l2, _, s1, s2, r1, r2, ho⟩
    exact ⟨bo, ba, rfl, VOk.two h.size l1 l2 s1 s2 r1 r2, ho⟩

end Go.Proofs.Ybulkhwa

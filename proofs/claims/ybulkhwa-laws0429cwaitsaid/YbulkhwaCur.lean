import Derived.Test.YbulkhwaBase
namespace Go.Proofs.Ybulkhwa
open Go.RowKit

/-- the item's cells: is a lock taken behind version lv? -/
def TkOk (I : Nat) (w : World) (lv : Int) (r : Bool) : Prop :=
  ∃ (hv : Value) (cnt : Int), w.cell? ⟨I, 0, none⟩ = some hv ∧ w.cell? ⟨I, 1, none⟩ = some (.int .i32 cnt) ∧
    ((cnt ≤ 0 ∧ r = false) ∨ (0 < cnt ∧ ∃ (hb m ch : Nat) (ver : Int), hv = .slice (some ⟨hb, 0, none⟩) (m + 1) ch ∧ m ≤ 1024 ∧ w.cell? ⟨hb, m * 2 + 1, none⟩ = some (.int .u32 ver) ∧ r = decide (lv < ver)))

theorem taken_any (I : Nat) (w : World) (lv : Int) (r : Bool) (h : TkOk I w lv r) :
    Calls Yba.prog 37 #[.pointer (some ⟨I, 0, none⟩), .int .u32 lv] w fun e w' => e = .returned (.bool r) ∧ ∃ q, w' = w.drewN q := by
  obtain ⟨hv, cnt, c0, c1, ⟨hc, rfl⟩ | ⟨hc, hb, m, ch, ver, rfl, hm, c2, rfl⟩⟩ := h
  · have hd : decide (0 < cnt) = false := by simp; omega
    go_enter Yba.func37, Yba.ntmps37
    go_wp2_with fail
    go_quiet (fail)
    go_wp2
    go_ret
    exact ⟨rfl, _, rfl⟩
  · have hd : decide (0 < cnt) = true := by simp; omega
    have hm1 : ((m + 1 : Nat) : Int) - 1 = (m : Int) := by omega
    have hm2 : (m : Int) < ((m + 1 : Nat) : Int) := by omega
    go_enter Yba.func37, Yba.ntmps37
    go_wp2_with fail
    go_quiet (fail)
    go_wp2
    go_ret
    exact ⟨rfl, _, rfl⟩

/-- the manager's level 0 over item 0 -/
structure LvOk (C : Nat) (w : World) (r : Bool) : Prop where
  ex : ∃ (lb cl I : Nat) (n : Nat) (lv : Int), n ≤ 2 ∧ w.cell? ⟨C, 21, none⟩ = some (.slice (some ⟨lb, 0, none⟩) (n + 1) cl) ∧ w.cell? ⟨lb, 0, none⟩ = some (.int .i32 0) ∧ w.cell? ⟨lb, 1, none⟩ = some (.int .u32 lv) ∧
    w.cell? ⟨C, 20, none⟩ = some (.slice (some ⟨I, 0, none⟩) 1 1) ∧ TkOk I w lv r

theorem TkOk.drewN {I : Nat} {w : World} {lv : Int} {r : Bool} (h : TkOk I w lv r) (q : Nat) : TkOk I (w.drewN q) lv r := h

theorem sees_any (C : Nat) (w : World) (r : Bool) (h : LvOk C w r) :
    Calls Yba.prog 23 #[.pointer (some ⟨C, 0, none⟩), .int .i32 0] w fun e w' => e = .returned (.bool !r) ∧ ∃ q, w' = w.drewN q := by
  obtain ⟨lb, cl, I, n, lv, hn, c21, l0, l1, c20, tk⟩ := h.ex
  have HT : Hid (TkOk I w lv r) := tk
  clear tk h
  go_enter Yba.func23, Yba.ntmps23
  go_wp2_with fail
  go_quiet ((go_at_call 37; refine Calls.quiet_of (taken_any _ _ _ _ (HT.out.drewN _))))
  go_wp2
  go_ret
  exact ⟨rfl, _, rfl⟩

/-- which level of item 0 sees its holders as they are -/
def CurOk (C : Nat) (w : World) (cur : Int) : Prop :=
  ∃ (F : Nat) (lf : Value), w.cell? ⟨C, 22, none⟩ = some (.slice (some ⟨F, 0, none⟩) 1 1) ∧ w.cell? ⟨F, 0, none⟩ = some lf ∧
    ((lf = .slice none 0 0 ∧ cur = -1) ∨ ∃ (fb cf : Nat) (r : Bool), lf = .slice (some ⟨fb, 0, none⟩) 1 cf ∧ w.cell? ⟨fb, 0, none⟩ = some (.int .i32 0) ∧ LvOk C w r ∧ cur = if r then -1 else 0)

theorem LvOk.drewN {C : Nat} {w : World} {r : Bool} (h : LvOk C w r) (q : Nat) : LvOk C (w.drewN q) r := ⟨h.ex⟩
theorem CurOk.drewN {C : Nat} {w : World} {cur : Int} (h : CurOk C w cur) (q : Nat) : CurOk C (w.drewN q) cur := by
  obtain ⟨F, lf, a, b, c⟩ := h
  refine ⟨F, lf, a, b, c.imp id ?_⟩
  rintro ⟨fb, cf, r, e1, e2, e3, e4⟩
  exact ⟨fb, cf, r, e1, e2, e3.drewN q, e4⟩

theorem current_any (C : Nat) (w : World) (cur : Int) (h : CurOk C w cur) :
    Calls Yba.prog 18 #[.pointer (some ⟨C, 0, none⟩), .int .i32 0] w fun e w' => e = .returned (.int .i32 cur) ∧ ∃ q, w' = w.drewN q := by
  obtain ⟨F, lf, c22, f0, ⟨rfl, rfl⟩ | ⟨fb, cf, r, rfl, f1, lv, rfl⟩⟩ := h
  · go_enter Yba.func18, Yba.ntmps18
    go_wp2
    go_ret
    exact ⟨rfl, 0, rfl⟩
  · have HL : Hid (LvOk C w r) := lv
    clear lv
    go_enter Yba.func18, Yba.ntmps18
    go_wp2_with fail
    refine (sees_any _ _ _ HL.out).mono ?_
    rintro e w' ⟨rfl, q, rfl⟩
    cases r with
    | true =>
      go_wp2
      go_ret
      exact ⟨rfl, q, rfl⟩
    | false =>
      go_wp2
      go_ret
      exact ⟨rfl, q, rfl⟩

/-- the height of the tree at root, by its node's cell -/
theorem height_neg (C : Nat) (r : Int) (w : World) (hr : r < 0) : Calls Yba.prog 45 #[.pointer (some ⟨C, 0, none⟩), .int .i32 r] w fun e w' => e = .returned (.int .i8 0) ∧ w' = w := by
  go_enter Yba.func45, Yba.ntmps45
  go_wp2
  go_ret
  exact ⟨rfl, rfl⟩
theorem height_at (C G N cap r : Nat) (h : Int) (w : World) (hr : r < N) (c24 : w.cell? ⟨C, 24, none⟩ = some (.slice (some ⟨G, 0, none⟩) N cap)) (c3 : w.cell? ⟨G, r * 4 + 3, none⟩ = some (.int .i8 h)) :
    Calls Yba.prog 45 #[.pointer (some ⟨C, 0, none⟩), .int .i32 r] w fun e w' => e = .returned (.int .i8 h) ∧ w' = w := by
  have hr' : (r : Int) < (N : Int) := by omega
  go_enter Yba.func45, Yba.ntmps45
  go_wp2
  go_ret
  exact ⟨rfl, rfl⟩

/-- an arrival -/
def arrF (st t : Nat) : Int := bits .or .i64 ((st : Int) * 2147483648) (t : Int)

theorem arrival_any (C S D M N t : Nat) (st : Nat) (w : World) (ht : t < N) (hN : N ≤ 4) (hst : st < 65536)
    (c4 : w.cell? ⟨C, 4, none⟩ = some (.slice (some ⟨S, 0, none⟩) (N + 1) (N + 1))) (c7 : w.cell? ⟨C, 7, none⟩ = some (.slice (some ⟨D, 0, none⟩) N N)) (c10 : w.cell? ⟨C, 10, none⟩ = some (.slice (some ⟨M, 0, none⟩) N N))
    (s0 : w.cell? ⟨S, t, none⟩ = some (.int .i32 t)) (d0 : w.cell? ⟨D, t, none⟩ = some (.int .i32 0)) (m0 : w.cell? ⟨M, t, none⟩ = some (.int .i32 st)) :
    Calls Yba.prog 24 #[.pointer (some ⟨C, 0, none⟩), .int .i32 t] w fun e w' => e = .returned (.int .i64 (arrF st t)) ∧ ∃ q, w' = w.drewN q := by
  have ht' : (t : Int) < (N : Int) := by omega
  have ht2 : (t : Int) < ((N + 1 : Nat) : Int) := by omega
  go_enter Yba.func24, Yba.ntmps24
  go_wp2_with fail
  go_quiet (fail)
  go_wp2
  go_ret
  exact ⟨rfl, _, rfl⟩

end Go.Proofs.Ybulkhwa

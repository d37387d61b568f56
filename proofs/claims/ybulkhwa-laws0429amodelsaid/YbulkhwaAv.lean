import Derived.Test.YbulkhwaSt
namespace Go.Proofs.Ybulkhwa
open Go.RowKit

theorem neq30 (k t : Int) (s : ByteArray) (w : World) : (binOp .neq 30 (.agg #[.int .u8 k, .int .i64 t, .string s]) (.agg #[.int .u8 k, .int .i64 t, .string s])).run Yba.prog w = .ok (.bool false) w := by
  go_simp

/-- no verdict -/
theorem averd0 {K : Bk} (A B : Int) (w : World) (hA : A < 0) :
    Calls Yba.prog 8 #[.agg #[.slice none 0 0, .slice none 0 0], .slice (some ⟨K.O, 0, none⟩) K.n K.n, .int .i32 A, .int .i32 B] w fun e w' => e = .returned (.bool true) ∧ Only [] w w' := by
  have hk := fun wx => run_eql_slice_nil (P := Yba.prog) wx 23 30 none 0 0 Yba.underlying23
  have hk' := fun wx => run_eql_slice_nil (P := Yba.prog) wx 34 3 none 0 0 Yba.underlying34
  go_enter Yba.func8, Yba.ntmps8
  go_wp2
  go_ret
  exact ⟨rfl, (Only.refl _ _).alloc _⟩

/-- the places as the law's two numbers -/
def Places (n : Nat) (ps : List Nat) (A B : Int) : Prop := (∃ p, ps = [p] ∧ A = (p : Int) ∧ B = -1 ∧ p < n) ∨ (∃ p q, ps = [p, q] ∧ A = (p : Int) ∧ B = (q : Int) ∧ p < n ∧ q < n)

set_option maxRecDepth 100000 in
set_option maxHeartbeats 2000000 in
theorem averd1 {K : Bk} {S : Sch} (A B : Int) (w : World) (ps : List Nat) (o a : Value) (hv : VOk K S w o a ps) (hP : Places K.n ps A B) (hO : Row w K.O (3 * K.n) (opCells S.kd S.tx S.nm)) (hn : K.n ≤ 1024) :
    Calls Yba.prog 8 #[.agg #[o, a], .slice (some ⟨K.O, 0, none⟩) K.n K.n, .int .i32 A, .int .i32 B] w fun e w' => e = .returned (.bool true) ∧ Only [] w w' := by
  have hne : ps ≠ [] := by rcases hP with ⟨p, rfl, _⟩ | ⟨p, q, rfl, _⟩ <;> simp
  rcases hv with ⟨e, _⟩ | ⟨_, bo, ba, rfl, rfl, _, _, s1, s2, r1, r2⟩
  · exact absurd e hne
  have hlen : 1 ≤ ps.length ∧ ps.length ≤ 2 := by rcases hP with ⟨p, rfl, _⟩ | ⟨p, q, rfl, _⟩ <;> simp
  have hpn : ∀ j, j < ps.length → ps.getD j 0 < K.n := by
    rcases hP with ⟨p, rfl, _, _, h⟩ | ⟨p, q, rfl, _, _, h1, h2⟩
    · intro j hj
      obtain rfl : j = 0 := by simpa using hj
      exact h
    · intro j hj
      have : j = 0 ∨ j = 1 := by simp at hj; omega
      rcases this with rfl | rfl
      · exact h1
      · exact h2
  have HP : Hid (Places K.n ps A B) := hP
  have HO : Hid (Row w K.O (3 * K.n) (opCells S.kd S.tx S.nm)) := hO
  have HR1 : Hid (Row w bo (3 * ps.length) (opCells (fun j => S.kd (ps.getD j 0)) (fun j => S.tx (ps.getD j 0)) (fun j => S.nm (ps.getD j 0)))) := r1
  have HR2 : Hid (Row w ba ps.length (fun j => .int .i64 (ps.getD j 0))) := r2
  have HPN : Hid (∀ j, j < ps.length → ps.getD j 0 < K.n) := hpn
  have lO : K.O < w.heap.size ∨ K.n = 0 := by
    by_cases h : K.n = 0
    · exact Or.inr h
    · exact Or.inl (hO.lt (by omega))
  have LO : Hid (K.O < w.heap.size ∨ K.n = 0) := lO
  obtain ⟨m, hm⟩ : ∃ m, ps.length = m := ⟨_, rfl⟩
  have HM : Hid (ps.length = m) := hm
  rw [hm] at hlen ⊢
  have HA : Hid (0 ≤ A) := by rcases hP with ⟨p, _, h, _⟩ | ⟨p, q, _, h, _⟩ <;> (show 0 ≤ A; omega)
  have hA := HA.out
  clear hP hO r1 r2 hpn hne hm lO HA
  go_enter Yba.func8, Yba.ntmps8
  go_upto_if 24 with fail
  go_cut [9] (fun s wx => ∃ bA cap, s = .slice (some ⟨bA, 0, none⟩) m cap ∧ (∀ j, j < m → wx.cell? ⟨bA, j, none⟩ = some (.int .i32 (ps.getD j 0))) ∧ Only [] w wx ∧ wx.cell? ⟨w.heap.size, 0, none⟩ = some (.slice (some ⟨bo, 0, none⟩) m m) ∧ wx.cell? ⟨w.heap.size, 1, none⟩ = some (.slice (some ⟨ba, 0, none⟩) m m))
  case first =>
    rcases HP.out with ⟨p, rfl, hAp, hB, _⟩ | ⟨p, q, rfl, hAp, hB, _, _⟩
    · obtain rfl : m = 1 := by have := HM.out; simpa using this.symm
      subst hB
      have HAP : Hid (A = (p : Int)) := hAp
      clear hAp
      go_wp2
      go_meet
      refine ⟨_, _, rfl, fun j hj => ?_, ((Only.refl _ _).alloc _).alloc _, ?_, ?_⟩
      · obtain rfl : j = 0 := by omega
        rw [World.cell?_alloc_at _ _ _ _ (by simp), HAP.out]; rfl
      · rw [World.cell?_alloc_past _ _ _ (by simp), World.cell?_alloc_new]; rfl
      · rw [World.cell?_alloc_past _ _ _ (by simp), World.cell?_alloc_new]; rfl
    · obtain rfl : m = 2 := by have := HM.out; simpa using this.symm
      have HAP : Hid (A = (p : Int)) := hAp
      have HBQ : Hid (B = (q : Int)) := hB
      have hB0 : 0 ≤ B := by omega
      obtain ⟨i0, hi, hz0, hz1, hz2⟩ := info_parts info21
      have hown : ((((w.alloc (.cells #[.slice (some ⟨bo, 0, none⟩) 2 2, .slice (some ⟨ba, 0, none⟩) 2 2] 36)).alloc (.cells #[.int .i32 A] 21)).alloc (.cells #[.int .i32 B] 21))).ownsRow (w.heap.size + 1) 21 1 (.slice (some ⟨w.heap.size + 1, 0, none⟩) 1 1) 1 [.int .i32 A] := by
        refine ⟨rfl, Or.inr ⟨w.heap.size + 1, 1, #[.int .i32 A], rfl, Nat.le_refl _, ?_, Nat.le_refl _, by unfold maxLen; omega, rfl, rfl⟩⟩
        show (((w.heap.push _).push _).push _)[w.heap.size + 1]? = _
        simp only [Array.getElem?_push, Array.size_push]
        rw [if_neg (by omega), if_pos trivial]
      clear hAp hB
      go_wp2_with (at_builtin; refine wpList_append_own _ rfl _ _ 24 rfl (w.heap.size + 1) 21 i0 (.int .i32 0) 1 4 Yba.underlying24 hi hz0 hz1 hz2 rfl (by decide) _ 1 [.int .i32 A] rfl hown ⟨w.heap.size + 1 + 1, 0, none⟩ 1 1 [.int .i32 B] rfl rfl ?c1 ?c2 ?c3 ?c4 ?c5 ?_)
      case c1 =>
        intro j u hj
        obtain rfl : j = 0 := by
          have := (List.getElem?_eq_some_iff.1 hj).1
          simpa using this
        simp at hj
        subst hj
        rw [Go.WideShapes.add_plain, World.cell?_alloc_at _ _ _ _ (by simp)]; rfl
      case c2 => intro u hu; simp at hu; subst hu; rfl
      case c3 => unfold maxLen; omega
      case c4 => omega
      case c5 => simp
      intro v' w1 hown' hgrow hnil
      rcases hown'.2 with ⟨rfl, h0⟩ | ⟨g, cap, cur, rfl, hg, hh, hl, _, hcs, htk⟩
      · omega
      have HG : Hid (w1.heap[g]? = some (.cells cur 21 (0, 0)) ∧ cur.toList.take (2 * 1) = [.int .i32 A, .int .i32 B]) := ⟨hh, htk⟩
      have HGR : Hid (World.grownBy _ w1 _) := hgrow
      clear hown hown' hgrow hnil hh htk hcs hg hl
      go_wp2
      go_meet
      have hW : Only [] w ((((w.alloc (.cells #[.slice (some ⟨bo, 0, none⟩) 2 2, .slice (some ⟨ba, 0, none⟩) 2 2] 36)).alloc (.cells #[.int .i32 A] 21)).alloc (.cells #[.int .i32 B] 21))) := (((Only.refl _ _).alloc _).alloc _).alloc _
      have hbox : w1.heap[w.heap.size]? = some (.cells #[.slice (some ⟨bo, 0, none⟩) 2 2, .slice (some ⟨ba, 0, none⟩) 2 2] 36 (0, 0)) := by
        rw [HGR.out.block w.heap.size (by simp; omega) (by simp [Value.ownBlock])]
        show (((w.heap.push _).push _).push _)[w.heap.size]? = _
        simp only [Array.getElem?_push, Array.size_push]
        rw [if_neg (by omega), if_neg (by omega), if_pos trivial]
      refine ⟨g, cap, rfl, fun j hj => ?_, ⟨HGR.out.os.trans hW.os, HGR.out.tape.trans hW.tape, HGR.out.output.trans hW.output, Nat.le_trans hW.size HGR.out.size, fun k hk _ => ?_⟩, ?_, ?_⟩
      · rw [cell_of_heap HG.out.1]
        have e : cur[j]? = (cur.toList.take (2 * 1))[j]? := by rw [List.getElem?_take, if_pos (by omega)]; simp
        rw [e, HG.out.2, HAP.out, HBQ.out]
        have : j = 0 ∨ j = 1 := by omega
        rcases this with rfl | rfl <;> rfl
      · rw [HGR.out.block k (by have := hW.size; omega) (by simp [Value.ownBlock]; omega)]
        exact hW.block k hk (by simp)
      · rw [cell_of_heap hbox]; rfl
      · rw [cell_of_heap hbox]; rfl
  case rest =>
    obtain ⟨bA, cap, rfl, hcA, hon, b0, b1⟩ := hcut
    have HCA : Hid (∀ j, j < m → wc.cell? ⟨bA, j, none⟩ = some (.int .i32 (ps.getD j 0))) := hcA
    have HON : Hid (Only [] w wc) := hon
    have n30 := neq30
    clear hcA hon
    go_wp2
    go_loopw [10] (fun i wr => ∃ k q : Nat, k ≤ m ∧ i = .int .i64 k ∧ wr = wc.drewN q) (fun i _ => m - (intOf i).toNat)
    case atStart => exact ⟨0, 0, Nat.zero_le _, rfl, rfl⟩
    case round =>
      obtain ⟨k, q, hk, rfl, hwr⟩ := hrel
      have HWR : Hid (wr = wc.drewN q) := hwr
      by_cases hlt : k < m
      · have b0' : wr.cell? ⟨w.heap.size, 0, none⟩ = some (.slice (some ⟨bo, 0, none⟩) m m) := by rw [hwr]; exact b0
        have b1' : wr.cell? ⟨w.heap.size, 1, none⟩ = some (.slice (some ⟨ba, 0, none⟩) m m) := by rw [hwr]; exact b1
        have ca : wr.cell? ⟨bA, k, none⟩ = some (.int .i32 (ps.getD k 0)) := by rw [hwr]; exact HCA.out k hlt
        have cb : wr.cell? ⟨ba, k, none⟩ = some (.int .i64 (ps.getD k 0)) := by
          rw [hwr, World.cell?_drewN, HON.out.cell (p := ⟨ba, k, none⟩) s2 (by simp)]; exact HR2.out.cell k (by rw [HM.out]; exact hlt)
        have hp := HPN.out k (by rw [HM.out]; exact hlt)
        have lO : K.O < w.heap.size := by rcases LO.out with h | h <;> omega
        have x0 : wr.cell? ⟨bo, k * 3, none⟩ = some (.int .u8 (S.kd (ps.getD k 0))) := by
          rw [hwr, World.cell?_drewN, HON.out.cell (p := ⟨bo, k * 3, none⟩) s1 (by simp), HR1.out.cell _ (by rw [HM.out]; omega), opCells, if_pos (by omega), show k * 3 / 3 = k by omega]
        have x1 : wr.cell? ⟨bo, k * 3 + 1, none⟩ = some (.int .i64 (S.tx (ps.getD k 0))) := by
          rw [hwr, World.cell?_drewN, HON.out.cell (p := ⟨bo, k * 3 + 1, none⟩) s1 (by simp), HR1.out.cell _ (by rw [HM.out]; omega), opCells, if_neg (by omega), if_pos (by omega), show (k * 3 + 1) / 3 = k by omega]
        have x2 : wr.cell? ⟨bo, k * 3 + 2, none⟩ = some (.string (S.nm (ps.getD k 0))) := by
          rw [hwr, World.cell?_drewN, HON.out.cell (p := ⟨bo, k * 3 + 2, none⟩) s1 (by simp), HR1.out.cell _ (by rw [HM.out]; omega), opCells, if_neg (by omega), if_neg (by omega), show (k * 3 + 2) / 3 = k by omega]
        have y0 : wr.cell? ⟨K.O, ps.getD k 0 * 3, none⟩ = some (.int .u8 (S.kd (ps.getD k 0))) := by
          rw [hwr, World.cell?_drewN, HON.out.cell (p := ⟨K.O, ps.getD k 0 * 3, none⟩) lO (by simp), HO.out.cell _ (by omega), opCells, if_pos (by omega), show ps.getD k 0 * 3 / 3 = ps.getD k 0 by omega]
        have y1 : wr.cell? ⟨K.O, ps.getD k 0 * 3 + 1, none⟩ = some (.int .i64 (S.tx (ps.getD k 0))) := by
          rw [hwr, World.cell?_drewN, HON.out.cell (p := ⟨K.O, ps.getD k 0 * 3 + 1, none⟩) lO (by simp), HO.out.cell _ (by omega), opCells, if_neg (by omega), if_pos (by omega), show (ps.getD k 0 * 3 + 1) / 3 = ps.getD k 0 by omega]
        have y2 : wr.cell? ⟨K.O, ps.getD k 0 * 3 + 2, none⟩ = some (.string (S.nm (ps.getD k 0))) := by
          rw [hwr, World.cell?_drewN, HON.out.cell (p := ⟨K.O, ps.getD k 0 * 3 + 2, none⟩) lO (by simp), HO.out.cell _ (by omega), opCells, if_neg (by omega), if_neg (by omega), show (ps.getD k 0 * 3 + 2) / 3 = ps.getD k 0 by omega]
        clear hwr b0 b1
        generalize ps.getD k 0 = pk at *
        generalize S.kd pk = kk at *
        generalize S.tx pk = tk at *
        generalize S.nm pk = nk at *
        have hi1 : (k : Int) < (m : Int) := by omega
        have hi2 : (pk : Int) < (K.n : Int) := by omega
        have hg : ((pk : Int) != (pk : Int)) = false := by simp
        go_wp2_with fail
        go_quiet (fail)
        go_wp2
        go_roundw
        case rel => exact ⟨k + 1, _, by omega, by go_num, by rw [HWR.out, World.drewN_drewN]⟩
        case measure => simp [intOf]; omega
      · clear hwr b0 b1
        go_wp2
        go_ret
        exact ⟨rfl, by rw [HWR.out]; exact HON.out.drewN _⟩

end Go.Proofs.Ybulkhwa

import Derived.Test.YbulkhwoWa
import Derived.Deep.DeepCutAuto
namespace Go.Proofs.Ybulkhwo
open Go.RowKit

theorem tab_set {w : World} {b : Nat} {d : Nat → Bool} (h : Tab w b d) (t : Nat) (ht : t < 256) : Tab (w.setCell ⟨b, t, none⟩ (.bool true)) b (fun j => if j = t then true else d j) := by
  intro j hj
  by_cases e : j = t
  · subst e
    rw [World.cell?_setCell_same _ _ _ (h j hj)]
    simp
  · rw [World.cell?_setCell_other _ _ _ _ (by intro h; injection h; omega), h j hj]
    simp [e]

def zeros : Array Value := Array.replicate 256 (.bool false)
theorem zv22 (w : World) : (zeroValue 22).run Yba.prog w = .ok (.agg zeros) w := by kernel_rfl

theorem tab_zero (w : World) : Tab (w.alloc (.cells zeros 22)) w.heap.size (fun _ => false) := by
  intro t ht
  rw [World.cell?_alloc_new]
  show (Array.replicate 256 (Value.bool false))[t]? = _
  rw [Array.getElem?_replicate, if_pos ht]

theorem empty_of (R : ByteArray) (h : R.data.toList = []) : R.toList.isEmpty = true ∧ R.size ≤ 0 := by
  have h2 : R.data.toList.length = R.size := by simp
  rw [ByteArray.toList_eq, h]
  rw [h] at h2
  exact ⟨rfl, by simp at h2; omega⟩

theorem full_of (R : ByteArray) (h : R.data.toList ≠ []) : R.toList.isEmpty = false ∧ 0 < R.size := by
  have h2 : R.data.toList.length = R.size := by simp
  rw [ByteArray.toList_eq]
  cases hl : R.data.toList with
  | nil => exact absurd hl h
  | cons x l => rw [hl] at h2; exact ⟨rfl, by simp at h2; omega⟩

/-- the first way: no point -/
theorem fin_none (s W F R : ByteArray) (h1 : F.data.toList = []) (h2 : s.data.toList = W.data.toList ++ R.data.toList) :
    ((W ++ R).toList == s.toList) = true ∧ s.size ≤ W.size + R.size ∧ F.size ≤ 0 := by
  have hl : ∀ x : ByteArray, x.data.toList.length = x.size := fun x => by simp
  refine ⟨?_, ?_, (empty_of F h1).2⟩
  · rw [ByteArray.toList_eq, ByteArray.toList_eq, ByteArray.data_append, Array.toList_append, h2]
    simp
  · have a := congrArg List.length h2
    simp only [List.length_append, hl] at a
    omega

theorem fin_point (s W F R : ByteArray) (h2 : s.data.toList = W.data.toList ++ 46 :: (F.data.toList ++ R.data.toList)) :
    ((W ++ ⟨#[46]⟩ ++ F ++ R).toList == s.toList) = true ∧ s.size ≤ W.size + F.size + R.size + 1 ∧ W.size + F.size + R.size < s.size := by
  have hl : ∀ x : ByteArray, x.data.toList.length = x.size := fun x => by simp
  refine ⟨?_, ?_⟩
  · rw [ByteArray.toList_eq, ByteArray.toList_eq, h2]
    simp [ByteArray.data_append, Array.toList_append]
  · have a := congrArg List.length h2
    simp only [List.length_append, List.length_cons, hl] at a
    omega

set_option maxRecDepth 100000 in
set_option maxHeartbeats 1000000 in
theorem law_any (s set : ByteArray) (dec : Bool) (w : World) (w0 : s.size ≤ maxLen) (w1 : set.size ≤ maxLen) :
    Calls Yba.prog 3 #[.string s, .string set, .bool dec] w fun e w' => e = .returned (.bool true) ∧ Below w.heap.size w w' := by
  unfold maxLen at w0 w1
  by_cases hs : s.size ≤ 1024
  · by_cases ht : set.size ≤ 1024
    · have hzv := zv22
      go_enter Yba.func3, Yba.ntmps3
      go_wp2
      go_loopw [8] (fun i wr => ∃ (k : Nat) (d : Nat → Bool), k ≤ set.size ∧ i = .int .i64 k ∧ Tab wr w.heap.size d ∧ (∀ t, t < 256 → wr.frozen? ⟨w.heap.size, t, none⟩ = false) ∧ Below w.heap.size w wr) (fun i _ => set.size - (intOf i).toNat)
      case atStart => exact ⟨0, _, Nat.zero_le _, rfl, tab_zero w, fun t _ => by simp, (Below.refl _ _).alloc (Nat.le_refl _) _⟩
      case round =>
        obtain ⟨k, d, hk, rfl, hT, hf, hB⟩ := hrel
        by_cases hlt : k < set.size
        · have hb : (set[k]).toNat < 256 := (set[k]).toNat_lt
          have hc := hT _ hb
          have hz := hf _ hb
          have HT : Hid (Tab wr w.heap.size d) := hT
          have HF : Hid (∀ t, t < 256 → wr.frozen? ⟨w.heap.size, t, none⟩ = false) := hf
          clear hT hf
          go_wp2
          go_roundw
          case rel => exact ⟨k + 1, _, by omega, by go_num, tab_set HT.out _ hb, fun t h => by rw [World.frozen?_setCell]; exact HF.out t h, hB.setCell (Nat.le_refl _) _⟩
          case measure => simp [intOf]; omega
        · have HT : Hid (Tab wr w.heap.size d) := hT
          have HF : Hid (∀ t, t < 256 → wr.frozen? ⟨w.heap.size, t, none⟩ = false) := hf
          clear hT hf
          go_upto_if 32 with fail
          go_cut [] (fun wx => ∃ d : Nat → Bool, Tab wx w.heap.size d ∧ Below w.heap.size w wx)
          case first =>
            cases dec with
            | false =>
              go_wp2
              go_meet
              exact ⟨d, HT.out, hB⟩
            | true =>
              go_wp2
              go_loopw [9] (fun i wq => ∃ (c : Nat) (d : Nat → Bool), 48 ≤ c ∧ c ≤ 58 ∧ i = .int .u8 c ∧ Tab wq w.heap.size d ∧ (∀ t, t < 256 → wq.frozen? ⟨w.heap.size, t, none⟩ = false) ∧ Below w.heap.size w wq) (fun i _ => 58 - (intOf i).toNat)
              case atStart => exact ⟨48, _, Nat.le_refl _, by omega, rfl, HT.out, HF.out, hB⟩
              case round =>
                obtain ⟨c, d2, hc1, hc2, rfl, hT2, hf2, hB2⟩ := hrel
                by_cases hlt2 : c < 58
                · have hc := hT2 c (by omega)
                  have hz := hf2 c (by omega)
                  have HT2 : Hid (Tab wr w.heap.size d2) := hT2
                  have HF2 : Hid (∀ t, t < 256 → wr.frozen? ⟨w.heap.size, t, none⟩ = false) := hf2
                  clear hT2 hf2
                  go_wp2
                  go_roundw
                  case rel => exact ⟨c + 1, _, by omega, by omega, by go_num, tab_set HT2.out _ (by omega), fun t h => by rw [World.frozen?_setCell]; exact HF2.out t h, hB2.setCell (Nat.le_refl _) _⟩
                  case measure => simp [intOf]; omega
                · have HT2 : Hid (Tab wr w.heap.size d2) := hT2
                  clear hT2 hf2
                  go_wp2
                  go_meet
                  exact ⟨d2, HT2.out, hB2⟩
          case rest =>
            clear HT HF hB
            obtain ⟨d, hT, hB⟩ := hcut
            have HT : Hid (Tab wc w.heap.size d) := hT
            clear hT
            go_wp2_with fail
            refine (split_any s w.heap.size d wc hs HT.out).mono ?_
            rintro e w' ⟨W, F, R, rfl, hok0, n, rfl⟩
            have hok : Hid (SplitOk d s.data.toList W.data.toList F.data.toList R.data.toList) := hok0
            have hsz := ok_sizes d s W F R hok0
            clear hok0
            go_wp2_with fail
            refine (all_any W w.heap.size d _ (by omega) (by exact HT.out) (ok_mem d W hok.out.1)).mono ?_
            rintro e w' ⟨rfl, n1, rfl⟩
            go_wp2_with fail
            refine (all_any F w.heap.size d _ (by omega) (by exact HT.out) (ok_mem d F hok.out.2.1)).mono ?_
            rintro e w' ⟨rfl, n2, rfl⟩
            by_cases hR : R.data.toList = []
            · obtain ⟨he, hz⟩ := empty_of R hR
              clear hR
              rcases hok.out.2.2.2 with ⟨h1, h2, h3⟩ | h2
              · obtain ⟨hfin, hz1, hz2⟩ := fin_none s W F R h1 h2
                have heF := (empty_of F h1).1
                clear h1 h2 h3
                go_wp2
                go_ret
                exact ⟨rfl, below_drewN hB _⟩
              · obtain ⟨hfin, hz1, hz2⟩ := fin_point s W F R h2
                clear h2
                go_wp2
                go_ret
                exact ⟨rfl, below_drewN hB _⟩
            · obtain ⟨he, hz⟩ := full_of R hR
              clear hR
              have hb : (R[0]).toNat < 256 := (R[0]).toNat_lt
              have hc : wc.cell? ⟨w.heap.size, (R[0]).toNat, none⟩ = some (.bool false) := by
                rw [HT.out _ hb, hok.out.2.2.1 _ (ok_head R hz)]
              rcases hok.out.2.2.2 with ⟨h1, h2, h3⟩ | h2
              · obtain ⟨hfin, hz1, hz2⟩ := fin_none s W F R h1 h2
                have heF := (empty_of F h1).1
                have h46 : ((R[0].toNat : Int) == 46) = false := by
                  have := h3 _ (ok_head R hz)
                  have h4 : (R[0]).toNat ≠ 46 := fun h => this (UInt8.toNat_inj.1 h)
                  simp; omega
                clear h1 h2 h3
                go_wp2
                go_ret
                exact ⟨rfl, below_drewN hB _⟩
              · obtain ⟨hfin, hz1, hz2⟩ := fin_point s W F R h2
                clear h2
                go_wp2
                go_ret
                exact ⟨rfl, below_drewN hB _⟩
    · have hs' : ¬ (1024 : Int) < s.size := by omega
      have ht' : (1024 : Int) < set.size := by omega
      go_enter Yba.func3, Yba.ntmps3
      go_wp2
      go_ret
      exact ⟨rfl, Below.refl _ _⟩
  · have hs' : (1024 : Int) < s.size := by omega
    go_enter Yba.func3, Yba.ntmps3
    go_wp2
    go_ret
    exact ⟨rfl, Below.refl _ _⟩

end Go.Proofs.Ybulkhwo

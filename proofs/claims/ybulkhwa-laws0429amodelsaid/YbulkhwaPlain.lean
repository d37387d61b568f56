import Derived.Test.YbulkhwaLockD
import Derived.Test.YbulkhwaAl
namespace Go.Proofs.Ybulkhwa

/-- three modes: how many hold, does one hold exclusively, is an exclusive one alone -/
def cnt3 (a b c : Int) : Int := (if a = 0 then 0 else 1) + (if b = 0 then 0 else 1) + (if c = 0 then 0 else 1)
def ex3 (a b c : Int) : Bool := decide (a = 2) || decide (b = 2) || decide (c = 2)
def solo (a b c : Int) : Prop := (a = 2 → b = 0 ∧ c = 0) ∧ (b = 2 → a = 0 ∧ c = 0) ∧ (c = 2 → a = 0 ∧ b = 0)

def md (a : Int) : Prop := a = 0 ∨ a = 1 ∨ a = 2

structure ItemOk (hd : Nat → Int) (ho : Nat → Int) (ex : Nat → Bool) (k : Nat) : Prop where
  ho : ho k = cnt3 (hd k) (hd (3 + k)) (hd (6 + k))
  ex : ex k = ex3 (hd k) (hd (3 + k)) (hd (6 + k))
  so : solo (hd k) (hd (3 + k)) (hd (6 + k))

structure Good (n : Nat) (s : St) : Prop where
  hd : ∀ u, u < 9 → md (s.hd u)
  rl : ∀ t, t < 3 → -1 ≤ s.rl t ∧ s.rl t < n
  it : s.lg = [] → ∀ k, k < 3 → ItemOk s.hd s.ho s.ex k

theorem cnt3_bd (a b c : Int) : 0 ≤ cnt3 a b c ∧ cnt3 a b c ≤ 3 := by
  unfold cnt3
  split <;> split <;> split <;> omega

theorem Good.bd {n : Nat} {s : St} (h : Good n s) (u : Nat) (hl : s.lg = []) : 0 ≤ s.ho (u % 3) ∧ s.ho (u % 3) ≤ 3 := by
  rw [(h.it hl (u % 3) (by omega)).ho]
  exact cnt3_bd _ _ _

/-- a store at another item changes nothing of item k -/
theorem ItemOk.far {hd ho ho' : Nat → Int} {ex ex' : Nat → Bool} {k u : Nat} (h : ItemOk hd ho ex k) (hu : u % 3 ≠ k) (hk : k < 3) (v : Int) (e1 : ho' k = ho k) (e2 : ex' k = ex k) : ItemOk (upd hd u v) ho' ex' k := by
  have a : upd hd u v k = hd k := upd_other _ _ _ _ (by omega)
  have b : upd hd u v (3 + k) = hd (3 + k) := upd_other _ _ _ _ (by omega)
  have c : upd hd u v (6 + k) = hd (6 + k) := upd_other _ _ _ _ (by omega)
  exact ⟨by rw [a, b, c, e1]; exact h.ho, by rw [a, b, c, e2]; exact h.ex, by rw [a, b, c]; exact h.so⟩

/-- of item k = u % 3 itself: the three modes, one of them turned -/
theorem ItemOk.near {hd ho' : Nat → Int} {ex' : Nat → Bool} {u : Nat} (hu : u < 9) (v : Int)
    (h0 : u = u % 3 → ho' (u % 3) = cnt3 v (hd (3 + u % 3)) (hd (6 + u % 3)) ∧ ex' (u % 3) = ex3 v (hd (3 + u % 3)) (hd (6 + u % 3)) ∧ solo v (hd (3 + u % 3)) (hd (6 + u % 3)))
    (h1 : u = 3 + u % 3 → ho' (u % 3) = cnt3 (hd (u % 3)) v (hd (6 + u % 3)) ∧ ex' (u % 3) = ex3 (hd (u % 3)) v (hd (6 + u % 3)) ∧ solo (hd (u % 3)) v (hd (6 + u % 3)))
    (h2 : u = 6 + u % 3 → ho' (u % 3) = cnt3 (hd (u % 3)) (hd (3 + u % 3)) v ∧ ex' (u % 3) = ex3 (hd (u % 3)) (hd (3 + u % 3)) v ∧ solo (hd (u % 3)) (hd (3 + u % 3)) v) : ItemOk (upd hd u v) ho' ex' (u % 3) := by
  have hc : u = u % 3 ∨ u = 3 + u % 3 ∨ u = 6 + u % 3 := by omega
  rcases hc with e | e | e
  · have a : upd hd u v (u % 3) = v := by rw [← e]; exact upd_same _ _ _
    have b : upd hd u v (3 + u % 3) = hd (3 + u % 3) := upd_other _ _ _ _ (by omega)
    have c : upd hd u v (6 + u % 3) = hd (6 + u % 3) := upd_other _ _ _ _ (by omega)
    obtain ⟨p, q, r⟩ := h0 e
    exact ⟨by rw [a, b, c]; exact p, by rw [a, b, c]; exact q, by rw [a, b, c]; exact r⟩
  · have a : upd hd u v (u % 3) = hd (u % 3) := upd_other _ _ _ _ (by omega)
    have b : upd hd u v (3 + u % 3) = v := by rw [← e]; exact upd_same _ _ _
    have c : upd hd u v (6 + u % 3) = hd (6 + u % 3) := upd_other _ _ _ _ (by omega)
    obtain ⟨p, q, r⟩ := h1 e
    exact ⟨by rw [a, b, c]; exact p, by rw [a, b, c]; exact q, by rw [a, b, c]; exact r⟩
  · have a : upd hd u v (u % 3) = hd (u % 3) := upd_other _ _ _ _ (by omega)
    have b : upd hd u v (3 + u % 3) = hd (3 + u % 3) := upd_other _ _ _ _ (by omega)
    have c : upd hd u v (6 + u % 3) = v := by rw [← e]; exact upd_same _ _ _
    obtain ⟨p, q, r⟩ := h2 e
    exact ⟨by rw [a, b, c]; exact p, by rw [a, b, c]; exact q, by rw [a, b, c]; exact r⟩

theorem md_upd {hd : Nat → Int} (h : ∀ u, u < 9 → md (hd u)) (v : Int) (hv : md v) (u : Nat) : ∀ j, j < 9 → md (upd hd u v j) := by
  intro j hj
  by_cases e : j = u
  · subst e; rw [upd_same]; exact hv
  · rw [upd_other _ _ _ _ e]; exact h j hj

theorem rl_upd {n : Nat} {rl : Nat → Int} (h : ∀ t, t < 3 → -1 ≤ rl t ∧ rl t < n) (i : Nat) (hi : i < n) (t : Nat) : ∀ j, j < 3 → -1 ≤ upd rl t (i : Int) j ∧ upd rl t (i : Int) j < n := by
  intro j hj
  by_cases e : j = t
  · subst e; rw [upd_same]; omega
  · rw [upd_other _ _ _ _ e]; exact h j hj

theorem good_read {n : Nat} {s : St} (h : Good n s) (u i : Nat) (need : Int) : Good n (readS s u i need) := by
  unfold readS
  split
  · exact ⟨h.hd, h.rl, h.it⟩
  · exact h

/-- an unlock where a lock is held, on the three modes -/
theorem rel_a (h b c : Int) (hh : md h) (hb : md b) (hc : md c) (h0 : h ≠ 0) (so : solo h b c) :
    cnt3 h b c - 1 = cnt3 0 b c ∧ (if h = 2 then false else ex3 h b c) = ex3 0 b c ∧ solo 0 b c := by
  unfold md at hh hb hc
  rcases hh with rfl | rfl | rfl <;> rcases hb with rfl | rfl | rfl <;> rcases hc with rfl | rfl | rfl <;> simp_all [cnt3, ex3, solo]
theorem rel_b (b h c : Int) (hh : md h) (hb : md b) (hc : md c) (h0 : h ≠ 0) (so : solo b h c) :
    cnt3 b h c - 1 = cnt3 b 0 c ∧ (if h = 2 then false else ex3 b h c) = ex3 b 0 c ∧ solo b 0 c := by
  unfold md at hh hb hc
  rcases hh with rfl | rfl | rfl <;> rcases hb with rfl | rfl | rfl <;> rcases hc with rfl | rfl | rfl <;> simp_all [cnt3, ex3, solo]
theorem rel_c (b c h : Int) (hh : md h) (hb : md b) (hc : md c) (h0 : h ≠ 0) (so : solo b c h) :
    cnt3 b c h - 1 = cnt3 b c 0 ∧ (if h = 2 then false else ex3 b c h) = ex3 b c 0 ∧ solo b c 0 := by
  unfold md at hh hb hc
  rcases hh with rfl | rfl | rfl <;> rcases hb with rfl | rfl | rfl <;> rcases hc with rfl | rfl | rfl <;> simp_all [cnt3, ex3, solo]

/-- a lock that is granted, on the three modes -/
theorem gr_ma (h b c want : Int) (p : Int × Bool) (hh : md h) (hb : md b) (hc : md c) (hw : want = 1 ∨ want = 2) (so : solo h b c) (hg : grF h want (cnt3 h b c) (ex3 h b c) = some p) :
    p.1 = cnt3 (if h < want then want else h) b c ∧ p.2 = ex3 (if h < want then want else h) b c ∧ solo (if h < want then want else h) b c := by
  unfold md at hh hb hc
  obtain ⟨p1, p2⟩ := p
  rcases hw with rfl | rfl <;> rcases hh with rfl | rfl | rfl <;> rcases hb with rfl | rfl | rfl <;> rcases hc with rfl | rfl | rfl <;> simp_all [cnt3, ex3, solo, grF] <;> (obtain ⟨rfl, rfl⟩ := hg; simp)
theorem gr_mb (b h c want : Int) (p : Int × Bool) (hh : md h) (hb : md b) (hc : md c) (hw : want = 1 ∨ want = 2) (so : solo b h c) (hg : grF h want (cnt3 b h c) (ex3 b h c) = some p) :
    p.1 = cnt3 b (if h < want then want else h) c ∧ p.2 = ex3 b (if h < want then want else h) c ∧ solo b (if h < want then want else h) c := by
  unfold md at hh hb hc
  obtain ⟨p1, p2⟩ := p
  rcases hw with rfl | rfl <;> rcases hh with rfl | rfl | rfl <;> rcases hb with rfl | rfl | rfl <;> rcases hc with rfl | rfl | rfl <;> simp_all [cnt3, ex3, solo, grF] <;> (obtain ⟨rfl, rfl⟩ := hg; simp)
theorem gr_mc (b c h want : Int) (p : Int × Bool) (hh : md h) (hb : md b) (hc : md c) (hw : want = 1 ∨ want = 2) (so : solo b c h) (hg : grF h want (cnt3 b c h) (ex3 b c h) = some p) :
    p.1 = cnt3 b c (if h < want then want else h) ∧ p.2 = ex3 b c (if h < want then want else h) ∧ solo b c (if h < want then want else h) := by
  unfold md at hh hb hc
  obtain ⟨p1, p2⟩ := p
  rcases hw with rfl | rfl <;> rcases hh with rfl | rfl | rfl <;> rcases hb with rfl | rfl | rfl <;> rcases hc with rfl | rfl | rfl <;> simp_all [cnt3, ex3, solo, grF] <;> (obtain ⟨rfl, rfl⟩ := hg; simp)

/-- 'grant' allows just what the table of held locks allows -/
theorem allow_eq {hd ho : Nat → Int} {ex : Nat → Bool} (t k : Nat) (want : Int) (ht : t < 3) (hk : k < 3) (hm : ∀ u, u < 9 → md (hd u)) (h : ItemOk hd ho ex k) (hw : want = 1 ∨ want = 2) :
    (grF (hd (t * 3 + k)) want (ho k) (ex k)).isSome = allowF hd t k want := by
  have m0 := hm k (by omega)
  have m1 := hm (3 + k) (by omega)
  have m2 := hm (6 + k) (by omega)
  have so := h.so
  rw [h.ho, h.ex]
  have o0 : othTo hd t k 3 = (((decide (0 ≠ t) && decide (hd k ≠ 0)) || (decide (1 ≠ t) && decide (hd (3 + k) ≠ 0))) || (decide (2 ≠ t) && decide (hd (6 + k) ≠ 0))) := by
    simp [othTo]
  have x0 : othX hd t k 3 = (((decide (0 ≠ t) && decide (hd k = 2)) || (decide (1 ≠ t) && decide (hd (3 + k) = 2))) || (decide (2 ≠ t) && decide (hd (6 + k) = 2))) := by
    simp [othX]
  rw [allowF, o0, x0]
  have hc : t = 0 ∨ t = 1 ∨ t = 2 := by omega
  unfold md at m0 m1 m2
  rcases hc with rfl | rfl | rfl
  · rw [show (0 * 3 + k) = k by omega]
    generalize hd k = a at *
    generalize hd (3 + k) = b at *
    generalize hd (6 + k) = c at *
    clear h hm o0 x0
    rcases hw with rfl | rfl <;> rcases m0 with rfl | rfl | rfl <;> rcases m1 with rfl | rfl | rfl <;> rcases m2 with rfl | rfl | rfl <;> simp_all [cnt3, ex3, solo, grF]
  · rw [show (1 * 3 + k) = 3 + k by omega]
    generalize hd k = a at *
    generalize hd (3 + k) = b at *
    generalize hd (6 + k) = c at *
    clear h hm o0 x0
    rcases hw with rfl | rfl <;> rcases m0 with rfl | rfl | rfl <;> rcases m1 with rfl | rfl | rfl <;> rcases m2 with rfl | rfl | rfl <;> simp_all [cnt3, ex3, solo, grF]
  · rw [show (2 * 3 + k) = 6 + k by omega]
    generalize hd k = a at *
    generalize hd (3 + k) = b at *
    generalize hd (6 + k) = c at *
    clear h hm o0 x0
    rcases hw with rfl | rfl <;> rcases m0 with rfl | rfl | rfl <;> rcases m1 with rfl | rfl | rfl <;> rcases m2 with rfl | rfl | rfl <;> simp_all [cnt3, ex3, solo, grF]

theorem upd_if (ho : Nat → Int) (k : Nat) (v : Int) (j : Nat) (h : j ≠ k) : upd ho k v j = ho j := upd_other _ _ _ _ h

theorem good_unlock {n : Nat} {s : St} (h : Good n s) (u t i : Nat) (hu : u < 9) (hi : i < n) : Good n (unlS s u t i) := by
  have e1 : (unlA s u).hd = s.hd ∧ (unlA s u).rl = s.rl := by
    unfold unlA relS
    split <;> (try split) <;> exact ⟨rfl, rfl⟩
  have e2 : (unl1 s u i).hd = s.hd ∧ (unl1 s u i).rl = s.rl ∧ (unl1 s u i).ho = (unlA s u).ho ∧ (unl1 s u i).ex = (unlA s u).ex := by
    unfold unl1
    split
    · exact ⟨e1.1, e1.2, rfl, rfl⟩
    · exact ⟨e1.1, e1.2, rfl, rfl⟩
  have e3 : (unl2 (unl1 s u i) t i).hd = s.hd ∧ (unl2 (unl1 s u i) t i).ho = (unlA s u).ho ∧ (unl2 (unl1 s u i) t i).ex = (unlA s u).ex ∧ (unl2 (unl1 s u i) t i).lg = (unl1 s u i).lg := by
    unfold unl2
    split
    · exact ⟨e2.1, e2.2.2.1, e2.2.2.2, rfl⟩
    · exact ⟨e2.1, e2.2.2.1, e2.2.2.2, rfl⟩
  refine ⟨?_, ?_, ?_⟩
  · show ∀ v, v < 9 → md (upd (unl2 (unl1 s u i) t i).hd u 0 v)
    rw [e3.1]
    exact md_upd h.hd 0 (Or.inl rfl) u
  · show ∀ v, v < 3 → -1 ≤ (unl2 (unl1 s u i) t i).rl v ∧ (unl2 (unl1 s u i) t i).rl v < n
    unfold unl2
    split
    · show ∀ v, v < 3 → -1 ≤ upd (unl1 s u i).rl t (i : Int) v ∧ upd (unl1 s u i).rl t (i : Int) v < n
      rw [e2.2.1]
      exact rl_upd h.rl i hi t
    · rw [e2.2.1]; exact h.rl
  · intro hlg k hk
    have hlg' : (unl1 s u i).lg = [] := by rw [← e3.2.2.2]; exact hlg
    show ItemOk (upd (unl2 (unl1 s u i) t i).hd u 0) (unl2 (unl1 s u i) t i).ho (unl2 (unl1 s u i) t i).ex k
    rw [e3.1, e3.2.1, e3.2.2.1]
    have hls : s.lg = [] ∧ s.hd u ≠ 0 := by
      unfold unl1 at hlg'
      split at hlg'
      · simp at hlg'
      · rename_i hc
        have : s.lg = [] := by
          unfold unlA relS at hlg'
          split at hlg'
          · assumption
          · exact hlg'
        exact ⟨this, fun h0 => hc ⟨this, h0⟩⟩
    have eA : (unlA s u).ho = upd s.ho (u % 3) (s.ho (u % 3) - 1) ∧ (unlA s u).ex = if s.hd u = 2 then upd s.ex (u % 3) false else s.ex := by
      unfold unlA relS
      rw [if_pos hls.1, if_neg hls.2]
      exact ⟨rfl, rfl⟩
    rw [eA.1, eA.2]
    have hI := h.it hls.1
    by_cases hke : u % 3 = k
    · subst hke
      have I := hI (u % 3) (by omega)
      have a0 := h.hd (u % 3) (by omega)
      have a1 := h.hd (3 + u % 3) (by omega)
      have a2 := h.hd (6 + u % 3) (by omega)
      have ex1 : (if s.hd u = 2 then upd s.ex (u % 3) false else s.ex) (u % 3) = if s.hd u = 2 then false else s.ex (u % 3) := by
        split
        · rw [upd_same]
        · rfl
      refine ItemOk.near hu 0 (fun e => ?_) (fun e => ?_) (fun e => ?_)
      · have hu0 : s.hd u = s.hd (u % 3) := by rw [← e]
        obtain ⟨p, q, r⟩ := rel_a _ _ _ a0 a1 a2 (by rw [← hu0]; exact hls.2) I.so
        exact ⟨by rw [upd_same, I.ho]; exact p, by rw [ex1, hu0, I.ex]; exact q, r⟩
      · have hu0 : s.hd u = s.hd (3 + u % 3) := by rw [← e]
        obtain ⟨p, q, r⟩ := rel_b _ _ _ a1 a0 a2 (by rw [← hu0]; exact hls.2) I.so
        exact ⟨by rw [upd_same, I.ho]; exact p, by rw [ex1, hu0, I.ex]; exact q, r⟩
      · have hu0 : s.hd u = s.hd (6 + u % 3) := by rw [← e]
        obtain ⟨p, q, r⟩ := rel_c _ _ _ a2 a0 a1 (by rw [← hu0]; exact hls.2) I.so
        exact ⟨by rw [upd_same, I.ho]; exact p, by rw [ex1, hu0, I.ex]; exact q, r⟩
    · refine (hI k hk).far hke hk 0 (upd_other _ _ _ _ (fun e => hke e.symm)) ?_
      split
      · exact upd_other _ _ _ _ (fun e => hke e.symm)
      · rfl

theorem good_lock {n : Nat} {s : St} (h : Good n s) (u t i : Nat) (hu : u < 9) (want : Int) (hw : want = 1 ∨ want = 2) : Good n (lockS s u t i want) := by
  have e1 := lock1_hd s u i want
  have e2 : (lock2 (lock1 s u i want) t i).hd = s.hd ∧ (lock2 (lock1 s u i want) t i).rl = s.rl ∧ (lock2 (lock1 s u i want) t i).ho = (lock1 s u i want).ho ∧ (lock2 (lock1 s u i want) t i).ex = (lock1 s u i want).ex ∧ (lock2 (lock1 s u i want) t i).lg = (lock1 s u i want).lg := by
    unfold lock2
    split
    · exact ⟨e1.1, e1.2.1, rfl, rfl, rfl⟩
    · exact ⟨e1.1, e1.2.1, rfl, rfl, rfl⟩
  have e3 : (lock3 (lock2 (lock1 s u i want) t i) u i).hd = s.hd ∧ (lock3 (lock2 (lock1 s u i want) t i) u i).rl = s.rl ∧ (lock3 (lock2 (lock1 s u i want) t i) u i).ho = (lock1 s u i want).ho ∧ (lock3 (lock2 (lock1 s u i want) t i) u i).ex = (lock1 s u i want).ex ∧ (lock3 (lock2 (lock1 s u i want) t i) u i).lg = (lock1 s u i want).lg := by
    unfold lock3
    split
    · exact e2
    · exact e2
  have hv : md (if s.hd u < want then want else s.hd u) := by
    have := h.hd u hu
    unfold md at *
    split <;> omega
  refine ⟨?_, ?_, ?_⟩
  · show ∀ v, v < 9 → md (upd (lock3 (lock2 (lock1 s u i want) t i) u i).hd u (if (lock3 (lock2 (lock1 s u i want) t i) u i).hd u < want then want else (lock3 (lock2 (lock1 s u i want) t i) u i).hd u) v)
    rw [e3.1]
    exact md_upd h.hd _ hv u
  · show ∀ v, v < 3 → -1 ≤ (lock3 (lock2 (lock1 s u i want) t i) u i).rl v ∧ (lock3 (lock2 (lock1 s u i want) t i) u i).rl v < n
    rw [e3.2.1]; exact h.rl
  · intro hlg k hk
    have hlg' : (lock1 s u i want).lg = [] := by rw [← e3.2.2.2.2]; exact hlg
    show ItemOk (upd (lock3 (lock2 (lock1 s u i want) t i) u i).hd u (if (lock3 (lock2 (lock1 s u i want) t i) u i).hd u < want then want else (lock3 (lock2 (lock1 s u i want) t i) u i).hd u)) (lock3 (lock2 (lock1 s u i want) t i) u i).ho (lock3 (lock2 (lock1 s u i want) t i) u i).ex k
    rw [e3.1, e3.2.2.1, e3.2.2.2.1]
    have hA : refu s u want = false ∧ s.lg = [] := by
      unfold lock1 at hlg'
      split at hlg'
      · simp at hlg'
      · rename_i hc
        refine ⟨by simpa using hc, ?_⟩
        unfold lockA grS at hlg'
        split at hlg'
        · assumption
        · exact hlg'
    obtain ⟨p, hp⟩ : ∃ p, grF (s.hd u) want (s.ho (u % 3)) (s.ex (u % 3)) = some p := by
      have := hA.1
      unfold refu at this
      rw [hA.2] at this
      cases hg : grF (s.hd u) want (s.ho (u % 3)) (s.ex (u % 3)) with
      | none => rw [hg] at this; simp at this
      | some p => exact ⟨p, rfl⟩
    have eA : (lock1 s u i want).ho = upd s.ho (u % 3) p.1 ∧ (lock1 s u i want).ex = upd s.ex (u % 3) p.2 := by
      unfold lock1 lockA grS
      rw [if_neg (by rw [hA.1]; simp), if_pos hA.2, hp]
      exact ⟨rfl, rfl⟩
    rw [eA.1, eA.2]
    have hI := h.it hA.2
    by_cases hke : u % 3 = k
    · subst hke
      have I := hI (u % 3) (by omega)
      have a0 := h.hd (u % 3) (by omega)
      have a1 := h.hd (3 + u % 3) (by omega)
      have a2 := h.hd (6 + u % 3) (by omega)
      rw [I.ho, I.ex] at hp
      refine ItemOk.near hu _ (fun e => ?_) (fun e => ?_) (fun e => ?_)
      · have hu0 : s.hd u = s.hd (u % 3) := by rw [← e]
        rw [hu0] at hp ⊢
        obtain ⟨x, y, z⟩ := gr_ma _ _ _ want p a0 a1 a2 hw I.so hp
        exact ⟨by rw [upd_same]; exact x, by rw [upd_same]; exact y, z⟩
      · have hu0 : s.hd u = s.hd (3 + u % 3) := by rw [← e]
        rw [hu0] at hp ⊢
        obtain ⟨x, y, z⟩ := gr_mb _ _ _ want p a1 a0 a2 hw I.so hp
        exact ⟨by rw [upd_same]; exact x, by rw [upd_same]; exact y, z⟩
      · have hu0 : s.hd u = s.hd (6 + u % 3) := by rw [← e]
        rw [hu0] at hp ⊢
        obtain ⟨x, y, z⟩ := gr_mc _ _ _ want p a2 a0 a1 hw I.so hp
        exact ⟨by rw [upd_same]; exact x, by rw [upd_same]; exact y, z⟩
    · exact (hI k hk).far hke hk _ (upd_other _ _ _ _ (fun e => hke e.symm)) (upd_other _ _ _ _ (fun e => hke e.symm))

end Go.Proofs.Ybulkhwa

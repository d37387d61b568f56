namespace Go.Proofs.Ybulkhwo

/-- What the three parts of a split say of the whole. -/
def SplitOk (d : Nat → Bool) (L W F R : List UInt8) : Prop :=
  (∀ c ∈ W, d c.toNat = true) ∧ (∀ c ∈ F, d c.toNat = true) ∧ (∀ c, R.head? = some c → d c.toNat = false) ∧
    ((F = [] ∧ L = W ++ R ∧ ∀ c, R.head? = some c → c ≠ 46) ∨ L = W ++ 46 :: (F ++ R))

theorem ex_list (s : ByteArray) (a b : Nat) : (s.extract a b).data.toList = (s.data.toList.take b).drop a := by
  rw [ByteArray.data_extract, Array.toList_extract, List.extract_eq_take_drop, List.drop_take]

theorem get_list (s : ByteArray) (k : Nat) (h : k < s.size) : s.data.toList[k]'(by simpa using h) = s[k] := rfl

theorem mem_take (d : Nat → Bool) (s : ByteArray) (k : Nat) (hk : k ≤ s.size) (h : ∀ j (hj : j < s.size), j < k → d (s[j]).toNat = true) :
    ∀ c ∈ s.data.toList.take k, d c.toNat = true := by
  intro c hc
  obtain ⟨i, hi, rfl⟩ := List.getElem_of_mem hc
  have hi' : i < k := by simp at hi; omega
  rw [List.getElem_take]
  exact h i (by omega) hi'

theorem head_drop (s : ByteArray) (k : Nat) (c : UInt8) (h : (s.data.toList.drop k).head? = some c) : ∃ hk : k < s.size, s[k] = c := by
  rw [List.head?_drop] at h
  obtain ⟨hk, e⟩ := List.getElem?_eq_some_iff.1 h
  exact ⟨by simpa using hk, e⟩

theorem split_none (d : Nat → Bool) (s : ByteArray) (k : Nat) (hk : k ≤ s.size) (h : ∀ j (hj : j < s.size), j < k → d (s[j]).toNat = true)
    (hf : ∀ hk : k < s.size, d (s[k]).toNat = false ∧ s[k] ≠ 46) : SplitOk d s.data.toList (s.extract 0 k).data.toList [] (s.extract k s.size).data.toList := by
  have e2 : (s.extract k s.size).data.toList = s.data.toList.drop k := by
    rw [ex_list, List.take_of_length_le (by simp)]
  have e1 : (s.extract 0 k).data.toList = s.data.toList.take k := by rw [ex_list]; simp
  rw [e1, e2]
  refine ⟨mem_take d s k hk h, (by intro c hc; cases hc), ?_, Or.inl ⟨rfl, (List.take_append_drop _ _).symm, ?_⟩⟩
  · intro c hc
    obtain ⟨h1, rfl⟩ := head_drop s k c hc
    exact (hf h1).1
  · intro c hc
    obtain ⟨h1, rfl⟩ := head_drop s k c hc
    exact (hf h1).2

theorem split_point (d : Nat → Bool) (s : ByteArray) (k m : Nat) (hk : k < s.size) (h : ∀ j (hj : j < s.size), j < k → d (s[j]).toNat = true) (h46 : s[k] = 46)
    (hm1 : 1 ≤ m) (hd : ∀ j (hj : k + j < s.size), 1 ≤ j → j < m → d (s[k + j]).toNat = true) (hf : ∀ hj : k + m < s.size, d (s[k + m]).toNat = false) :
    SplitOk d s.data.toList (s.extract 0 k).data.toList ((s.extract k s.size).extract 1 m).data.toList ((s.extract k s.size).extract m (s.size - k)).data.toList := by
  have hl : s.data.toList.length = s.size := by simp
  have e2 : (s.extract k s.size).data.toList = s.data.toList.drop k := by
    rw [ex_list, List.take_of_length_le (by simp)]
  have e1 : (s.extract 0 k).data.toList = s.data.toList.take k := by rw [ex_list]; simp
  have e3 : ((s.extract k s.size).extract 1 m).data.toList = (s.data.toList.drop (k + 1)).take (m - 1) := by
    rw [ex_list, e2, List.drop_take, List.drop_drop]
  have e4 : ((s.extract k s.size).extract m (s.size - k)).data.toList = s.data.toList.drop (k + m) := by
    rw [ex_list, e2, List.take_of_length_le (by simp), List.drop_drop]
  rw [e1, e3, e4]
  refine ⟨mem_take d s k (by omega) h, ?_, ?_, Or.inr ?_⟩
  · intro c hc
    obtain ⟨i, hi, rfl⟩ := List.getElem_of_mem hc
    have hi' : i < m - 1 ∧ k + 1 + i < s.size := by simp at hi; omega
    rw [List.getElem_take, List.getElem_drop]
    have := hd (1 + i) (by omega) (by omega) (by omega)
    have e : s.data.toList[k + 1 + i]'(by omega) = s[k + (1 + i)]'(by omega) := by
      rw [← get_list s (k + (1 + i)) (by omega)]; congr 1; omega
    rw [e]; exact this
  · intro c hc
    obtain ⟨h1, rfl⟩ := head_drop s (k + m) c hc
    exact hf h1
  · have hx : s.data.toList.drop k = 46 :: s.data.toList.drop (k + 1) := by
      rw [List.drop_eq_getElem_cons (by omega), get_list s k hk, h46]
    have hy : s.data.toList.drop (k + m) = (s.data.toList.drop (k + 1)).drop (m - 1) := by rw [List.drop_drop]; congr 1; omega
    rw [hy, List.take_append_drop, ← hx, List.take_append_drop]

theorem split_end (d : Nat → Bool) (s : ByteArray) (h : ∀ j (hj : j < s.size), j < s.size → d (s[j]).toNat = true) : SplitOk d s.data.toList s.data.toList [] [] := by
  have := mem_take d s s.size (Nat.le_refl _) h
  rw [List.take_of_length_le (by simp)] at this
  exact ⟨this, (by intro c hc; cases hc), (by intro c hc; cases hc), Or.inl ⟨rfl, (List.append_nil _).symm, by intro c hc; cases hc⟩⟩

theorem ext_size (s : ByteArray) (k : Nat) : (s.extract k s.size).size = s.size - k := by simp

theorem ext_get (s r : ByteArray) (k j : Nat) (hr : s.extract k s.size = r) (hj : j < r.size) (h : k + j < s.size) : r[j] = s[k + j] := by
  subst hr
  rw [← get_list _ j hj, ← get_list s (k + j) h]
  have e2 : (s.extract k s.size).data.toList = s.data.toList.drop k := by
    rw [ex_list, List.take_of_length_le (by simp)]
  have : (s.data.toList.drop k)[j]? = s.data.toList[k + j]? := List.getElem?_drop
  rw [← e2] at this
  rw [List.getElem?_eq_getElem (by simpa using hj), List.getElem?_eq_getElem (by simpa using h)] at this
  exact Option.some.inj this

theorem split_none' (d : Nat → Bool) (s r : ByteArray) (k : Nat) (hk : k < s.size) (hr : s.extract k s.size = r) (h : ∀ j (hj : j < s.size), j < k → d (s[j]).toNat = true)
    (hf : d (s[k]).toNat = false) (h0 : 0 < r.size) (hn : r[0] ≠ 46) : SplitOk d s.data.toList (s.extract 0 k).data.toList [] r.data.toList := by
  rw [ext_get s r k 0 hr h0 (by omega)] at hn
  have := split_none d s k (by omega) h (fun _ => ⟨hf, hn⟩)
  rw [hr] at this
  exact this

theorem split_point' (d : Nat → Bool) (s r : ByteArray) (k m : Nat) (hk : k < s.size) (hr : s.extract k s.size = r) (h : ∀ j (hj : j < s.size), j < k → d (s[j]).toNat = true) (h0 : 0 < r.size) (h46 : r[0] = 46)
    (hm1 : 1 ≤ m) (hd : ∀ j (hj : j < r.size), 1 ≤ j → j < m → d (r[j]).toNat = true) (hf : ∀ hj : m < r.size, d (r[m]).toNat = false) :
    SplitOk d s.data.toList (s.extract 0 k).data.toList (r.extract 1 m).data.toList (r.extract m r.size).data.toList := by
  have hz : r.size = s.size - k := by rw [← hr]; simp
  rw [ext_get s r k 0 hr h0 (by omega)] at h46
  have := split_point d s k m hk h h46 hm1 (fun j hj h1 h2 => by rw [← ext_get s r k j hr (by omega) hj]; exact hd j (by omega) h1 h2)
    (fun hj => by rw [← ext_get s r k m hr (by omega) hj]; exact hf (by omega))
  rw [hr, ← hz] at this
  exact this

theorem ok_mem (d : Nat → Bool) (W : ByteArray) (h : ∀ c ∈ W.data.toList, d c.toNat = true) : ∀ k (hk : k < W.size), d (W[k]).toNat = true := by
  intro k hk
  rw [← get_list W k hk]
  exact h _ (List.getElem_mem _)

theorem ok_head (R : ByteArray) (h0 : 0 < R.size) : R.data.toList.head? = some R[0] := by
  rw [List.head?_eq_getElem?, List.getElem?_eq_getElem (by simpa using h0)]
  rfl

theorem ok_sizes (d : Nat → Bool) (s W F R : ByteArray) (h : SplitOk d s.data.toList W.data.toList F.data.toList R.data.toList) :
    W.size + F.size + R.size ≤ s.size := by
  have hl : ∀ x : ByteArray, x.data.toList.length = x.size := fun x => by simp
  rcases h.2.2.2 with ⟨h1, h2, _⟩ | h2
  · have a := congrArg List.length h2
    have b := congrArg List.length h1
    simp only [List.length_append, hl, List.length_nil] at a b
    omega
  · have a := congrArg List.length h2
    simp only [List.length_append, List.length_cons, hl] at a
    omega

end Go.Proofs.Ybulkhwo

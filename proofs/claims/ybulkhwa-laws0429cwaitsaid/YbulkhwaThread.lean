/-
  A LAW FOR A REGION THAT DRAWS ITS ORDER AND HOLDS A THREAD OF EFFECTS (makes, appends, calls, stores: each waits for the one ahead of it) among operations that only read what no effect turns. Over any program.
-/
import Derived.Test.YbulkhwaRegion
namespace Go.Pool

/-- the slots' values: an effect's slot by e, every other by V -/
def mix (isE : Nat → Bool) (V e : Nat → Value) : Nat → Value := fun s => if isE s then e s else V s

/-- operation i waits for operation j -/
def waits (ops : Array Oper) (i j : Nat) : Bool := match ops[i]? with
  | some o => o.after.toList.any fun e => Region.binds .any e && e.on == j
  | none => false

theorem of_waits {ops : Array Oper} {i j : Nat} (h : waits ops i j = true) {o : Oper} (ho : ops[i]? = some o) {L : Nat → Bool} (hd : ∀ e ∈ o.after, Region.binds .any e = true → L e.on = true) : L j = true := by
  unfold waits at h
  rw [ho] at h
  simp only [List.any_eq_true, Bool.and_eq_true, beq_iff_eq] at h
  obtain ⟨e, he, hb, rfl⟩ := h
  exact hd e (Array.mem_toList_iff.1 he) hb

theorem Closed.waits {ops : Array Oper} {L : Nat → Bool} (h : Closed ops L) {i j : Nat} (hw : Pool.waits ops i j = true) (hi : L i = true) : L j = true := by
  have hw' := hw
  unfold Pool.waits at hw'
  cases ho : ops[i]? with
  | none => rw [ho] at hw'; cases hw'
  | some o => exact of_waits hw ho (h i o ho hi)

/-- the closed facts: effs: the effects' places in their order; D: all slots that are written; isE: those that an effect writes -/
def threadB (ops : Array Oper) (effs : List Nat) (isE : Nat → Bool) (D : List Nat) (n : Nat) : Bool :=
  tameB ops &&
  ((List.range ops.size).all fun i => match ops[i]? with
    | some o => match o.dst with
      | some d => D.contains d && decide (d < n) && (isE d == effs.contains i)
      | none => effs.contains i
    | none => true) &&
  (D.all fun d => decide (d < n) && (List.range ops.size).any fun i => match ops[i]? with
    | some o => o.dst == some d
    | none => false) &&
  ((List.range effs.length).all fun k => decide (effs.getD k 0 < ops.size) && (decide (k = 0) || waits ops (effs.getD k 0) (effs.getD (k - 1) 0))) &&
  ((List.range effs.length).all fun k => (List.range effs.length).all fun j => decide (effs.getD k 0 = effs.getD j 0 → k = j))

/-- operation i reads slot s behind an operation of the region that wrote it -/
def innerB (ops : Array Oper) (i s : Nat) : Bool := (List.range ops.size).any fun j => waits ops i j && match ops[j]? with
  | some o => o.dst == some s
  | none => false
/-- .. ahead of whatever writes it -/
def outerB (ops : Array Oper) (i s : Nat) : Bool := (List.range ops.size).all fun j => match ops[j]? with
  | some o => o.dst != some s || waits ops j i
  | none => true
def readsB (ops : Array Oper) (inn out : List (Nat × Nat)) : Bool := (inn.all fun p => innerB ops p.1 p.2) && (out.all fun p => outerB ops p.1 p.2)

theorem FrameOk.inner {ops : Array Oper} {a0 a : Act} {L : Nat → Bool} {x : Nat → Value} (h : FrameOk ops a0 L x a) {i s : Nat} {o : Oper} (ho : ops[i]? = some o) (hdep : ∀ e ∈ o.after, Region.binds .any e = true → L e.on = true) (hB : innerB ops i s = true) : a.eval (.tmp s) = x s := by
  unfold innerB at hB
  simp only [List.any_eq_true, Bool.and_eq_true] at hB
  obtain ⟨j, _, hw, hj⟩ := hB
  cases hoj : ops[j]? with
  | none => rw [hoj] at hj; cases hj
  | some o' =>
    rw [hoj] at hj
    exact h.eval_done j o' s hoj (by simpa using hj) (of_waits hw ho hdep)

theorem FrameOk.outer {ops : Array Oper} {a0 a : Act} {L : Nat → Bool} {x : Nat → Value} (h : FrameOk ops a0 L x a) (hcl : Closed ops L) {i s : Nat} (hi : L i = false) (hB : outerB ops i s = true) : a.eval (.tmp s) = a0.eval (.tmp s) := by
  refine h.rest s fun j o ho hd => ?_
  unfold outerB at hB
  have := List.all_eq_true.1 hB j (List.mem_range.2 (Array.getElem?_eq_some_iff.1 ho).1)
  rw [ho] at this
  simp only [hd, bne_self_eq_false, Bool.false_or] at this
  cases hL : L j with
  | false => rfl
  | true => have := hcl.waits this hL; rw [hi] at this; cases this

section
variable {P : Program} {ops : Array Oper} {Q : Exit → Act → World → Prop}

/-- a call by its contract -/
theorem enter_upon {o : Oper} {a : Act} {next : Act → World → Prop} {f : FuncId} {args : Array Value} {w : World} {v : Value} {S : World → Prop} (h : Calls P f args w fun e w' => e = .returned v ∧ S w') (hn : ∀ w', S w' → next (a.put o.dst v) w') :
    o.upon P a next Q (.ok (.enter f args) w) :=
  h.mono fun e w' ⟨he, hs⟩ => by subst he; exact hn w' hs

/-- ████ THE LAW ████ -/
theorem wp_region_thread {id : Nat} {a0 : Act} {w : World} (hm : P.follows .mixedOrders = true) (effs : List Nat) (isE : Nat → Bool) (D : List Nat) (hB : threadB ops effs isE D a0.tmps.size = true)
    (inn out : List (Nat × Nat)) (hR : readsB ops inn out = true) (V : Nat → Value) (W : Nat → (Nat → Value) → World → Prop) (e0 : Nat → Value) (h0 : W 0 e0 w.drew)
    (hpure : ∀ (i : Nat) (o : Oper) (d : Nat) (a : Act) (e : Nat → Value) (k : Nat) (w : World), ops[i]? = some o → effs.contains i = false → o.dst = some d →
      (∀ s, (i, s) ∈ inn → a.eval (.tmp s) = mix isE V e s) → (∀ s, (i, s) ∈ out → a.eval (.tmp s) = a0.eval (.tmp s)) → (∀ j, j < effs.length → waits ops (effs.getD j 0) i = true → k ≤ j) → W k e w → (execOp a.eval o).run P w = .ok (.value (V d)) w)
    (heff : ∀ (k : Nat) (o : Oper) (a : Act) (e : Nat → Value) (w : World), k < effs.length → ops[effs.getD k 0]? = some o →
      (∀ s, (effs.getD k 0, s) ∈ inn → a.eval (.tmp s) = mix isE V e s) → (∀ s, (effs.getD k 0, s) ∈ out → a.eval (.tmp s) = a0.eval (.tmp s)) → W k e w → o.wp P a w (fun a' w' => ∃ v e', a' = a.put o.dst v ∧ (∀ s, e' s = if o.dst = some s then v else e s) ∧ W (k + 1) e' w') Q)
    (hend : ∀ e w, W effs.length e w → Q .normal (lay D (mix isE V e) a0) w) : (Code.region id ops true).wp P Q a0 w := by
  unfold threadB at hB
  simp only [Bool.and_eq_true, List.all_eq_true, List.mem_range, decide_eq_true_eq] at hB
  obtain ⟨⟨⟨⟨ht, h1⟩, h2⟩, h3⟩, h4⟩ := hB
  unfold readsB at hR
  simp only [Bool.and_eq_true, List.all_eq_true] at hR
  obtain ⟨hR1, hR2⟩ := hR
  have hmem : ∀ i, effs.contains i = true → ∃ k, k < effs.length ∧ effs.getD k 0 = i := by
    intro i hi
    have := List.contains_iff_mem.1 hi
    obtain ⟨k, hk, rfl⟩ := List.getElem_of_mem this
    exact ⟨k, hk, by simp [hk]⟩
  have hw : ∀ k, k < effs.length → k = 0 ∨ waits ops (effs.getD k 0) (effs.getD (k - 1) 0) = true := by
    intro k hk
    have := (h3 k hk).2
    simpa using this
  have hd1 : ∀ (i : Nat) (o : Oper) (d : Nat), ops[i]? = some o → o.dst = some d → d ∈ D ∧ d < a0.tmps.size ∧ isE d = effs.contains i := by
    intro i o d ho hd
    have := h1 i (Array.getElem?_eq_some_iff.1 ho).1
    rw [ho] at this
    simp only [hd, Bool.and_eq_true, List.contains_iff_mem, decide_eq_true_eq, beq_iff_eq] at this
    exact ⟨this.1.1, this.1.2, this.2⟩
  have hd0 : ∀ (i : Nat) (o : Oper), ops[i]? = some o → o.dst = none → effs.contains i = true := by
    intro i o ho hd
    have := h1 i (Array.getElem?_eq_some_iff.1 ho).1
    rw [ho] at this
    simpa only [hd] using this
  refine wp_region_inv hm (tame_of ht) (fun L a w => ∃ (e : Nat → Value) (k : Nat), FrameOk ops a0 L (mix isE V e) a ∧ k ≤ effs.length ∧ (∀ j, j < effs.length → (L (effs.getD j 0) = true ↔ j < k)) ∧ W k e w) ?_ ?_ ?_
  · refine ⟨e0, 0, FrameOk.start _ _, Nat.zero_le _, fun j hj => ?_, h0⟩
    have := (h3 j hj).1
    simp only [Nat.not_lt_zero, iff_false]
    simpa using this
  · rintro L a w i o ⟨e, k, hF, hk, hL, hW⟩ hcl ho hi hdep
    cases hc : effs.contains i with
    | false =>
      cases hd : o.dst with
      | none => have := hd0 i o ho hd; rw [hc] at this; cases this
      | some d =>
        have hr := hpure i o d a e k w ho hc hd (fun s hs => hF.inner ho hdep (hR1 _ hs)) (fun s hs => hF.outer hcl hi (hR2 _ hs)) (fun j hj hwt => by
          by_cases hjk : j < k
          · have := hcl.waits hwt ((hL j hj).2 hjk)
            rw [hi] at this; cases this
          · omega) hW
        unfold Oper.wp
        rw [hr, Oper.upon_value]
        obtain ⟨_, hdn, hie⟩ := hd1 i o d ho hd
        have hie' : isE d = false := by rw [hie, hc]
        refine ⟨e, k, ?_, hk, fun j hj => ?_, hW⟩
        · have := hF.put ho hd hdn (V d)
          have ex : (fun s => if s = d then V d else mix isE V e s) = mix isE V e := by
            funext s
            by_cases hs : s = d
            · subst hs; simp [mix, hie']
            · simp [hs]
          rw [ex] at this
          exact this
        · have hne : effs.getD j 0 ≠ i := fun h => by
            have : effs.contains i = true := List.contains_iff_mem.2 (by rw [← h]; simp [hj])
            rw [hc] at this; cases this
          simp only [hne, if_false]
          exact hL j hj
    | true =>
      obtain ⟨k', hk', rfl⟩ := hmem i hc
      have hkk : k = k' := by
        have a1 : ¬ k' < k := fun h => by have := (hL k' hk').2 h; rw [hi] at this; cases this
        by_cases h : k = k'
        · exact h
        · have h5 : k < k' := by omega
          rcases hw k' hk' with h6 | h6
          · omega
          · have := of_waits h6 ho hdep
            have := (hL (k' - 1) (by omega)).1 this
            omega
      subst hkk
      refine Oper.wp_mono ?_ (heff k o a e w hk' ho (fun s hs => hF.inner ho hdep (hR1 _ hs)) (fun s hs => hF.outer hcl hi (hR2 _ hs)) hW)
      rintro a' w' ⟨v, e', rfl, he', hW'⟩
      refine ⟨e', k + 1, ?_, hk', fun j hj => ?_, hW'⟩
      · cases hd : o.dst with
        | none =>
          have : e' = e := by funext s; rw [he' s, hd]; simp
          subst this
          have := hF.skip ho hd v
          rw [hd] at this
          exact this
        | some d =>
          obtain ⟨_, hdn, hie⟩ := hd1 _ o d ho hd
          have hie' : isE d = true := by rw [hie, hc]
          have := hF.put ho hd hdn v
          have ex : (fun s => if s = d then v else mix isE V e s) = mix isE V e' := by
            funext s
            by_cases hs : s = d
            · subst hs; simp [mix, hie', he', hd]
            · have : ¬ d = s := fun h => hs h.symm
              simp [mix, hs, he', hd, this]
          rw [ex, hd] at this
          exact this
      · by_cases hjk : j = k
        · subst hjk; simp
        · have hne : effs.getD j 0 ≠ effs.getD k 0 := fun h => hjk (h4 j hj k hk' h)
          simp only [hne, if_false]
          rw [hL j hj]
          omega
  · rintro a w ⟨e, k, hF, hk, hL, hW⟩
    have : k = effs.length := by
      by_cases h : k < effs.length
      · have := (hL k h).1 rfl
        omega
      · omega
    subst this
    have hlay := hF.lay D (fun d hd => by
      have := h2 d hd
      simp only [List.any_eq_true] at this
      obtain ⟨h5, i, _, h6⟩ := this
      refine ⟨h5, i, ?_⟩
      cases ho : ops[i]? with
      | none => rw [ho] at h6; cases h6
      | some o => rw [ho] at h6; exact ⟨o, rfl, by simpa using h6⟩) (fun i o d ho hd => (hd1 i o d ho hd).1)
    rw [hlay]
    exact hend e w hW
end
end Go.Pool

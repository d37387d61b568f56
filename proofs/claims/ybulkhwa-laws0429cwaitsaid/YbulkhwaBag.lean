import Derived.Test.YbulkhwaThread
namespace Go.Pool
open Go

section
variable {P : Program} {ops : Array Oper} {Q : Exit → Act → World → Prop}

/-- the closed facts: effs: the effects' places; D: all slots that are written; isE: those that an effect writes -/
def bagB (ops : Array Oper) (effs : List Nat) (isE : Nat → Bool) (D : List Nat) (n : Nat) : Bool :=
  tameB ops &&
  ((List.range ops.size).all fun i => match ops[i]? with
    | some o => match o.dst with
      | some d => D.contains d && decide (d < n) && (isE d == effs.contains i)
      | none => effs.contains i
    | none => true) &&
  (D.all fun d => decide (d < n) && (List.range ops.size).any fun i => match ops[i]? with
    | some o => o.dst == some d
    | none => false) &&
  (effs.all fun i => decide (i < ops.size))

/-- A drawn region whose effects may come in more than one order: W M e w: what holds once the effects M are done. -/
theorem wp_region_bag {id : Nat} {a0 : Act} {w : World} (hm : P.follows .mixedOrders = true) (effs : List Nat) (isE : Nat → Bool) (D : List Nat) (hB : bagB ops effs isE D a0.tmps.size = true)
    (inn out : List (Nat × Nat)) (hR : readsB ops inn out = true) (V : Nat → Value) (W : (Nat → Bool) → (Nat → Value) → World → Prop) (e0 : Nat → Value) (h0 : W (fun _ => false) e0 w.drew)
    (hpure : ∀ (i : Nat) (o : Oper) (d : Nat) (a : Act) (e : Nat → Value) (M : Nat → Bool) (w : World), ops[i]? = some o → effs.contains i = false → o.dst = some d →
      (∀ s, (i, s) ∈ inn → a.eval (.tmp s) = mix isE V e s) → (∀ s, (i, s) ∈ out → a.eval (.tmp s) = a0.eval (.tmp s)) → W M e w → (execOp a.eval o).run P w = .ok (.value (V d)) w)
    (heff : ∀ (i : Nat) (o : Oper) (a : Act) (e : Nat → Value) (M : Nat → Bool) (w : World), effs.contains i = true → ops[i]? = some o → M i = false → (∀ j, j ∈ effs → waits ops i j = true → M j = true) →
      (∀ s, (i, s) ∈ inn → a.eval (.tmp s) = mix isE V e s) → (∀ s, (i, s) ∈ out → a.eval (.tmp s) = a0.eval (.tmp s)) → W M e w → o.wp P a w (fun a' w' => ∃ v e', a' = a.put o.dst v ∧ (∀ s, e' s = if o.dst = some s then v else e s) ∧ W (fun j => if j = i then true else M j) e' w') Q)
    (hend : ∀ e M w, (∀ i, i ∈ effs → M i = true) → W M e w → Q .normal (lay D (mix isE V e) a0) w) : (Code.region id ops true).wp P Q a0 w := by
  unfold bagB at hB
  simp only [Bool.and_eq_true, List.all_eq_true, List.mem_range, decide_eq_true_eq] at hB
  obtain ⟨⟨⟨ht, h1⟩, h2⟩, h3⟩ := hB
  unfold readsB at hR
  simp only [Bool.and_eq_true, List.all_eq_true] at hR
  obtain ⟨hR1, hR2⟩ := hR
  have hd1 : ∀ (i : Nat) (o : Oper) (d : Nat), ops[i]? = some o → o.dst = some d → d ∈ D ∧ d < a0.tmps.size ∧ isE d = effs.contains i := by
    intro i o d ho hd
    have := h1 i (Array.getElem?_eq_some_iff.1 ho).1
    rw [ho] at this
    simp only [hd, Bool.and_eq_true, List.contains_iff_mem, decide_eq_true_eq, beq_iff_eq] at this
    exact ⟨this.1.1, this.1.2, this.2⟩
  have hd0 : ∀ (i : Nat) (o : Oper), ops[i]? = some o → o.dst = none → effs.contains i = true := by
    intro i o ho hd
    have := h1 i (Array.getElem?_eq_some_iff.1 ho).1
    rw [ho] at this
    simpa only [hd] using this
  refine wp_region_inv hm (tame_of ht) (fun L a w => ∃ (e : Nat → Value) (M : Nat → Bool), FrameOk ops a0 L (mix isE V e) a ∧ (∀ j, j ∈ effs → M j = L j) ∧ W M e w) ?_ ?_ ?_
  · refine ⟨e0, fun _ => false, FrameOk.start _ _, fun j hj => ?_, h0⟩
    have := h3 j hj
    simp [this]
  · rintro L a w i o ⟨e, M, hF, hL, hW⟩ hcl ho hi hdep
    cases hc : effs.contains i with
    | false =>
      cases hd : o.dst with
      | none => have := hd0 i o ho hd; rw [hc] at this; cases this
      | some d =>
        have hr := hpure i o d a e M w ho hc hd (fun s hs => hF.inner ho hdep (hR1 _ hs)) (fun s hs => hF.outer hcl hi (hR2 _ hs)) hW
        unfold Oper.wp
        rw [hr, Oper.upon_value]
        obtain ⟨_, hdn, hie⟩ := hd1 i o d ho hd
        have hie' : isE d = false := by rw [hie, hc]
        refine ⟨e, M, ?_, fun j hj => ?_, hW⟩
        · have := hF.put ho hd hdn (V d)
          have ex : (fun s => if s = d then V d else mix isE V e s) = mix isE V e := by
            funext s
            by_cases hs : s = d
            · subst hs; simp [mix, hie']
            · simp [hs]
          rw [ex] at this
          exact this
        · have hne : j ≠ i := fun h => by
            have : effs.contains i = true := List.contains_iff_mem.2 (h ▸ hj)
            rw [hc] at this; cases this
          simp only [hne, if_false]
          exact hL j hj
    | true =>
      have hmi : i ∈ effs := List.contains_iff_mem.1 hc
      refine Oper.wp_mono ?_ (heff i o a e M w hc ho ((hL i hmi).trans hi) (fun j hj hw => (hL j hj).trans (of_waits hw ho hdep)) (fun s hs => hF.inner ho hdep (hR1 _ hs)) (fun s hs => hF.outer hcl hi (hR2 _ hs)) hW)
      rintro a' w' ⟨v, e', rfl, he', hW'⟩
      refine ⟨e', _, ?_, fun j hj => ?_, hW'⟩
      · cases hd : o.dst with
        | none =>
          have : e' = e := by funext s; rw [he' s, hd]; simp
          subst this
          have := hF.skip ho hd v
          rw [hd] at this
          exact this
        | some d =>
          obtain ⟨_, hdn, hie⟩ := hd1 _ o d ho hd
          have hie' : isE d = true := by rw [hie, hc]
          have := hF.put ho hd hdn v
          have ex : (fun s => if s = d then v else mix isE V e s) = mix isE V e' := by
            funext s
            by_cases hs : s = d
            · subst hs; simp [mix, hie', he', hd]
            · have : ¬ d = s := fun h => hs h.symm
              simp [mix, hs, he', hd, this]
          rw [ex, hd] at this
          exact this
      · by_cases hjk : j = i
        · subst hjk; simp
        · simp only [hjk, if_false]
          exact hL j hj
  · rintro a w ⟨e, M, hF, hL, hW⟩
    have hlay := hF.lay D (fun d hd => by
      have := h2 d hd
      simp only [List.any_eq_true] at this
      obtain ⟨h5, i, _, h6⟩ := this
      refine ⟨h5, i, ?_⟩
      cases ho : ops[i]? with
      | none => rw [ho] at h6; cases h6
      | some o => rw [ho] at h6; exact ⟨o, rfl, by simpa using h6⟩) (fun i o d ho hd => (hd1 i o d ho hd).1)
    rw [hlay]
    exact hend e M w hL hW
end
end Go.Pool

/-
  A LAW FOR A REGION THAT DRAWS ITS ORDER, whatever its operations do (calls, stores and appends among them), by an invariant over what is listed, the frame and the world. Over any program.
-/
import Derived.Test.YbulkhwaPool
namespace Go.Pool

/-- the closed facts that the law asks: no guard; each operation waits for earlier ones alone -/
structure Tame (ops : Array Oper) : Prop where
  plain : ∀ (i : Nat) (o : Oper), ops[i]? = some o → o.guard = none
  acyc : ∀ (i : Nat) (o : Oper), ops[i]? = some o → ∀ e ∈ o.after, Region.binds .any e = true → e.on < i

def tameB (ops : Array Oper) : Bool :=
  (ops.toList.all fun o => o.guard.isNone) &&
  ((List.range ops.size).all fun i => match ops[i]? with
    | some o => o.after.toList.all fun e => !Region.binds .any e || decide (e.on < i)
    | none => true)

theorem tame_of {ops : Array Oper} (h : tameB ops = true) : Tame ops := by
  unfold tameB at h
  simp only [Bool.and_eq_true, List.all_eq_true] at h
  obtain ⟨h2, h3⟩ := h
  have mem : ∀ (i : Nat) (o : Oper), ops[i]? = some o → o ∈ ops.toList := fun i o ho => Array.mem_toList_iff.2 (Array.mem_of_getElem? ho)
  refine ⟨fun i o ho => ?_, fun i o ho e he hb => ?_⟩
  · have := h2 o (mem i o ho)
    simpa using this
  · have hlt : i < ops.size := (Array.getElem?_eq_some_iff.1 ho).1
    have := h3 i (List.mem_range.2 hlt)
    rw [ho] at this
    simp only [List.all_eq_true] at this
    have := this e (Array.mem_toList_iff.2 he)
    rw [hb] at this
    simpa using this

/-- what is listed is closed: an operation's forerunners are listed ahead of it -/
def Closed (ops : Array Oper) (L : Nat → Bool) : Prop := ∀ (j : Nat) (o : Oper), ops[j]? = some o → L j = true → ∀ e ∈ o.after, Region.binds .any e = true → L e.on = true

section
variable {P : Program} {ops : Array Oper} {Q : Exit → Act → World → Prop}

theorem ready_nil' (hf : Tame ops) {listed : Array Bool} (hs : listed.size = ops.size) (h : Region.ready .any ops listed = []) : ∀ i, listed.getD i true = true := by
  intro i
  induction i using Nat.strongRecOn with
  | _ i ih =>
    cases hi : listed.getD i true with
    | true => rfl
    | false =>
      exfalso
      have hlt : i < ops.size := by
        rw [← hs]
        refine Nat.lt_of_not_le fun hle => ?_
        simp [Array.getD, Nat.not_lt.2 hle] at hi
      have : i ∈ Region.ready .any ops listed := mem_ready.2 ⟨hlt, hi, _, Array.getElem?_eq_getElem hlt, fun e he hb => by
        have h1 := hf.acyc i _ (Array.getElem?_eq_getElem hlt) e he hb
        have h2 := ih e.on h1
        have h3 : e.on < listed.size := by omega
        simpa [Array.getD, h3] using h2⟩
      rw [h] at this
      cases this

theorem inv_go (hf : Tame ops) (R : (Nat → Bool) → Act → World → Prop)
    (hstep : ∀ (L : Nat → Bool) a w i o, R L a w → Closed ops L → ops[i]? = some o → L i = false → (∀ e ∈ o.after, Region.binds .any e = true → L e.on = true) → o.wp P a w (fun a' w' => R (fun j => if j = i then true else L j) a' w') Q)
    (hend : ∀ a w, R (fun _ => true) a w → Q .normal a w) :
    ∀ (fuel : Nat) (listed : Array Bool) (a : Act) (w : World), listed.size = ops.size → listed.toList.count false ≤ fuel → Closed ops (fun i => listed.getD i true) →
      R (fun i => listed.getD i true) a w → wpAny P .any ops Q fuel listed a w := by
  have fin : ∀ (listed : Array Bool) (a : Act) (w : World), (∀ i, listed.getD i true = true) → R (fun i => listed.getD i true) a w → Q .normal a w := by
    intro listed a w hall hR
    have e : (fun i => listed.getD i true) = fun _ => true := funext hall
    rw [e] at hR
    exact hend a w hR
  intro fuel
  induction fuel with
  | zero =>
    intro listed a w hs hc _ hR
    have hall : ∀ i, listed.getD i true = true := by
      intro i
      cases hi : listed.getD i true with
      | true => rfl
      | false => have := count_set listed i hi; omega
    refine ⟨?_, fin listed a w hall hR⟩
    refine List.eq_nil_iff_forall_not_mem.2 fun i hi => ?_
    have := (mem_ready.1 hi).2.1
    rw [hall i] at this
    cases this
  | succ fuel ih =>
    intro listed a w hs hc hcl hR
    refine ⟨fun h0 => fin listed a w (ready_nil' hf hs h0) hR, fun i hi => ?_⟩
    obtain ⟨hlt, hi0, o, ho, hdep⟩ := mem_ready.1 hi
    have hdep' : ∀ e ∈ o.after, Region.binds .any e = true → listed.getD e.on true = true := fun e he hb => by
      have h1 := hdep e he hb
      by_cases h2 : e.on < listed.size
      · simpa [Array.getD, h2] using h1
      · simp [Array.getD, h2]
    have hset : (fun j => (listed.setIfInBounds i true).getD j true) = fun j => if j = i then true else listed.getD j true := by
      funext j
      by_cases h : j = i
      · subst h
        by_cases h2 : j < listed.size <;> simp [Array.getD, h2]
      · by_cases h2 : j < listed.size
        · simp [Array.getD, h2, h, Ne.symm h]
        · simp [Array.getD, h2, h]
    have hcl' : Closed ops (fun j => (listed.setIfInBounds i true).getD j true) := by
      rw [hset]
      intro j o' hj hL e he hb
      by_cases h : j = i
      · subst h
        rw [ho] at hj
        obtain rfl := Option.some.inj hj
        have := hdep' e he hb
        by_cases h' : e.on = j
        · simp [h']
        · simpa [h'] using this
      · simp only [h, if_false] at hL
        have := hcl j o' hj hL e he hb
        by_cases h' : e.on = i
        · simp [h']
        · simpa [h'] using this
    unfold wpOp
    rw [ho]
    show if Region.wanted o (yielded ops a.tmps) = true then _ else _
    have hw : Region.wanted o (yielded ops a.tmps) = true := by unfold Region.wanted; rw [hf.plain i o ho]
    rw [if_pos hw]
    refine Or.inl (Oper.wp_mono ?_ (hstep _ a w i o hR hcl ho hi0 hdep'))
    intro a' w' hR'
    exact ih _ a' w' (by simpa using hs) (by have := count_set listed i hi0; omega) hcl' (by rw [hset]; exact hR')

/-- ████ THE LAW ████ -/
theorem wp_region_inv {id : Nat} {a0 : Act} {w : World} (hm : P.follows .mixedOrders = true) (hf : Tame ops) (R : (Nat → Bool) → Act → World → Prop)
    (h0 : R (fun i => !decide (i < ops.size)) a0 w.drew)
    (hstep : ∀ (L : Nat → Bool) a w i o, R L a w → Closed ops L → ops[i]? = some o → L i = false → (∀ e ∈ o.after, Region.binds .any e = true → L e.on = true) → o.wp P a w (fun a' w' => R (fun j => if j = i then true else L j) a' w') Q)
    (hend : ∀ a w, R (fun _ => true) a w → Q .normal a w) : (Code.region id ops true).wp P Q a0 w := by
  have e : (fun i => (Array.replicate ops.size false).getD i true) = fun i => !decide (i < ops.size) := by
    funext i
    by_cases h : i < ops.size <;> simp [Array.getD, h]
  refine wp_region_any hm (inv_go hf R hstep hend ops.size _ a0 w.drew (by simp) ?_ ?_ (by rw [e]; exact h0))
  · exact Nat.le_trans (List.count_le_length (a := false)) (by simp)
  · rw [e]
    intro j o ho hL
    have : j < ops.size := (Array.getElem?_eq_some_iff.1 ho).1
    simp [this] at hL

/-- the frame at the start -/
theorem FrameOk.start (a0 : Act) (x : Nat → Value) : FrameOk ops a0 (fun i => !decide (i < ops.size)) x a0 := by
  refine ⟨rfl, rfl, fun i o d ho _ hL => ?_, fun _ _ => rfl⟩
  have : i < ops.size := (Array.getElem?_eq_some_iff.1 ho).1
  simp [this] at hL

/-- a value laid -/
theorem FrameOk.put {a0 a : Act} {L : Nat → Bool} {x : Nat → Value} (hF : FrameOk ops a0 L x a) {i : Nat} {o : Oper} {d : Nat} (ho : ops[i]? = some o) (hd : o.dst = some d) (hdn : d < a0.tmps.size) (v : Value) :
    FrameOk ops a0 (fun j => if j = i then true else L j) (fun s => if s = d then v else x s) (a.put o.dst v) := by
  rw [hd]
  have hda : d < a.tmps.size := by rw [hF.size]; exact hdn
  refine ⟨(defers_put _ _ _).trans hF.defers, (size_put _ _ _).trans hF.size, fun j o' d' hj hd' hL => ?_, fun s hs' => ?_⟩
  · rw [getD_put _ _ _ _ hda]
    by_cases h : d' = d
    · simp [h]
    · rw [if_neg h, if_neg h]
      have hji : j ≠ i := fun e => by
        subst e
        rw [ho] at hj
        obtain rfl := Option.some.inj hj
        rw [hd] at hd'
        exact h (Option.some.inj hd').symm
      simp only [hji, if_false] at hL
      exact hF.done j o' d' hj hd' hL
  · have hsd : s ≠ d := fun e => by
      subst e
      have := hs' i o ho hd
      simp at this
    rw [getD_put _ _ _ _ hda, if_neg hsd]
    refine hF.rest s fun j o' hj hd' => ?_
    have := hs' j o' hj hd'
    by_cases hji : j = i
    · simp [hji] at this
    · simpa [hji] using this

/-- an operation with no slot -/
theorem FrameOk.skip {a0 a : Act} {L : Nat → Bool} {x : Nat → Value} (hF : FrameOk ops a0 L x a) {i : Nat} {o : Oper} (ho : ops[i]? = some o) (hd : o.dst = none) (v : Value) :
    FrameOk ops a0 (fun j => if j = i then true else L j) x (a.put o.dst v) := by
  rw [hd]
  refine ⟨hF.defers, hF.size, fun j o' d' hj hd' hL => ?_, fun s hs' => ?_⟩
  · have hji : j ≠ i := fun e => by
      subst e
      rw [ho] at hj
      obtain rfl := Option.some.inj hj
      rw [hd] at hd'
      cases hd'
    simp only [hji, if_false] at hL
    exact hF.done j o' d' hj hd' hL
  · refine hF.rest s fun j o' hj hd' => ?_
    have := hs' j o' hj hd'
    by_cases hji : j = i
    · simp [hji] at this
    · simpa [hji] using this

/-- at the end: every slot of D is laid -/
theorem FrameOk.lay {a0 a : Act} {x : Nat → Value} (hF : FrameOk ops a0 (fun _ => true) x a) (D : List Nat) (h1 : ∀ d ∈ D, d < a0.tmps.size ∧ ∃ (i : Nat) (o : Oper), ops[i]? = some o ∧ o.dst = some d) (h2 : ∀ (i : Nat) o d, ops[i]? = some o → o.dst = some d → d ∈ D) : a = Pool.lay D x a0 := by
  have hl := lay_spec x D a0 (fun d hd => (h1 d hd).1)
  refine act_ext (hF.defers.trans hl.2.1.symm) (hF.size.trans hl.1.symm) fun s => ?_
  rw [hl.2.2 s]
  by_cases hs : s ∈ D
  · rw [if_pos hs]
    obtain ⟨_, i, o, ho, hd⟩ := h1 s hs
    exact hF.done i o s ho hd rfl
  · rw [if_neg hs]
    exact hF.rest s fun i o ho hd => absurd (h2 i o s ho hd) hs
end
end Go.Pool

/-
  A LAW FOR A REGION THAT DRAWS ITS ORDER, EACH OPERATION OF WHICH YIELDS A VALUE INTO A SLOT OF ITS OWN (a struct literal whose fields are made: several allocations in an open order): by an invariant, not order by order. Over any program.
-/
import Derived.Orders
import Derived.Tactics
import Derived.RegionTactic
namespace Go.Pool

/-- The frame behind the operations that L lists: their slots hold x, every other slot what it held. -/
structure FrameOk (ops : Array Oper) (a0 : Act) (L : Nat → Bool) (x : Nat → Value) (a : Act) : Prop where
  defers : a.defers = a0.defers
  size : a.tmps.size = a0.tmps.size
  done : ∀ i o d, ops[i]? = some o → o.dst = some d → L i = true → a.tmps.getD d undef = x d
  rest : ∀ s, (∀ i o, ops[i]? = some o → o.dst = some s → L i = false) → a.tmps.getD s undef = a0.tmps.getD s undef

theorem FrameOk.eval_done {ops : Array Oper} {a0 a : Act} {L : Nat → Bool} {x : Nat → Value} (h : FrameOk ops a0 L x a) (i : Nat) (o : Oper) (d : Nat) (ho : ops[i]? = some o) (hd : o.dst = some d) (hL : L i = true) : a.eval (.tmp d) = x d :=
  h.done i o d ho hd hL

/-- no operation of the region writes slot s -/
def untouched (ops : Array Oper) (s : Nat) : Bool := ops.toList.all fun o => o.dst != some s

theorem FrameOk.eval_rest {ops : Array Oper} {a0 a : Act} {L : Nat → Bool} {x : Nat → Value} (h : FrameOk ops a0 L x a) (s : Nat) (hs : untouched ops s = true) : a.eval (.tmp s) = a0.eval (.tmp s) := by
  refine h.rest s fun i o ho hd => ?_
  have := List.all_eq_true.1 hs o (Array.mem_toList_iff.2 (Array.mem_of_getElem? ho))
  simp [hd] at this

theorem getD_put (a : Act) (d s : Nat) (v : Value) (hd : d < a.tmps.size) : (a.put (some d) v).tmps.getD s undef = if s = d then v else a.tmps.getD s undef := by
  simp only [Act.put, Array.getD_eq_getD_getElem?, Array.getElem?_setIfInBounds]
  by_cases h : s = d
  · subst h; simp [hd]
  · rw [if_neg (fun h' => h h'.symm), if_neg h]

theorem size_put (a : Act) (d : Option Nat) (v : Value) : (a.put d v).tmps.size = a.tmps.size := by
  cases d <;> simp [Act.put]

theorem defers_put (a : Act) (d : Option Nat) (v : Value) : (a.put d v).defers = a.defers := by
  cases d <;> rfl

/-- The frame with every slot of D laid. -/
def lay (D : List Nat) (x : Nat → Value) (a : Act) : Act := D.foldl (fun a d => a.put (some d) (x d)) a

theorem lay_spec (x : Nat → Value) : ∀ (D : List Nat) (a : Act), (∀ d ∈ D, d < a.tmps.size) →
    (lay D x a).tmps.size = a.tmps.size ∧ (lay D x a).defers = a.defers ∧ ∀ s, (lay D x a).tmps.getD s undef = if s ∈ D then x s else a.tmps.getD s undef
  | [], a, _ => ⟨rfl, rfl, fun s => by simp [lay]⟩
  | d :: D, a, h => by
    have ih := lay_spec x D (a.put (some d) (x d)) (fun e he => by rw [size_put]; exact h e (List.mem_cons_of_mem _ he))
    refine ⟨ih.1.trans (size_put _ _ _), ih.2.1.trans (defers_put _ _ _), fun s => ?_⟩
    show (lay D x (a.put (some d) (x d))).tmps.getD s undef = _
    rw [ih.2.2 s, getD_put _ _ _ _ (h d (List.mem_cons_self ..))]
    by_cases h1 : s ∈ D
    · simp [h1]
    · by_cases h2 : s = d
      · subst h2; simp [h1]
      · simp [h1, h2]

theorem act_ext {a b : Act} (hd : a.defers = b.defers) (hs : a.tmps.size = b.tmps.size) (h : ∀ s, a.tmps.getD s undef = b.tmps.getD s undef) : a = b := by
  obtain ⟨ta, da⟩ := a
  obtain ⟨tb, db⟩ := b
  simp only at hd hs h
  subst hd
  congr 1
  apply Array.ext hs
  intro i h1 h2
  have := h i
  simpa [Array.getD, h1, h2] using this

/-- what the law asks of the region's text: closed facts -/
structure Fits (ops : Array Oper) (D : List Nat) (n : Nat) : Prop where
  dst : ∀ (i : Nat) (o : Oper), ops[i]? = some o → ∃ d, o.dst = some d ∧ d ∈ D ∧ d < n
  plain : ∀ (i : Nat) (o : Oper), ops[i]? = some o → o.guard = none
  acyc : ∀ (i : Nat) (o : Oper), ops[i]? = some o → ∀ e ∈ o.after, Region.binds .any e = true → e.on < i
  all : ∀ d ∈ D, d < n ∧ ∃ (i : Nat) (o : Oper), ops[i]? = some o ∧ o.dst = some d

theorem mem_ready {ops : Array Oper} {listed : Array Bool} {i : Nat} : i ∈ Region.ready .any ops listed ↔ i < ops.size ∧ listed.getD i true = false ∧ ∃ o, ops[i]? = some o ∧ ∀ e ∈ o.after, Region.binds .any e = true → listed.getD e.on false = true := by
  unfold Region.ready
  rw [List.mem_filter, List.mem_range]
  constructor
  · rintro ⟨h1, h2⟩
    simp only [Bool.and_eq_true, Bool.not_eq_true'] at h2
    obtain ⟨h2, h3⟩ := h2
    refine ⟨h1, h2, _, Array.getElem?_eq_getElem h1, fun e he hb => ?_⟩
    rw [Array.getElem?_eq_getElem h1] at h3
    simp only [Option.map_some, Option.getD_some, Array.all_eq_true] at h3
    obtain ⟨k, hk, rfl⟩ := Array.getElem_of_mem he
    have := h3 k hk
    rw [hb] at this
    simpa using this
  · rintro ⟨h1, h2, o, ho, h3⟩
    refine ⟨h1, ?_⟩
    rw [h2, ho]
    simp only [Bool.not_false, Option.map_some, Option.getD_some, Bool.true_and, Array.all_eq_true]
    intro k hk
    cases hb : Region.binds .any o.after[k] with
    | false => rfl
    | true => simpa using h3 _ (Array.getElem_mem hk) hb

theorem ready_nil {ops : Array Oper} {D : List Nat} {n : Nat} (hf : Fits ops D n) {listed : Array Bool} (hs : listed.size = ops.size) (h : Region.ready .any ops listed = []) : ∀ i, listed.getD i true = true := by
  intro i
  induction i using Nat.strongRecOn with
  | _ i ih =>
    cases hi : listed.getD i true with
    | true => rfl
    | false =>
      exfalso
      have hlt : i < ops.size := by
        rw [← hs]
        refine Nat.lt_of_not_le fun hle => ?_
        simp [Array.getD, Nat.not_lt.2 hle] at hi
      have : i ∈ Region.ready .any ops listed := mem_ready.2 ⟨hlt, hi, _, Array.getElem?_eq_getElem hlt, fun e he hb => by
        have h1 := hf.acyc i _ (Array.getElem?_eq_getElem hlt) e he hb
        have h2 := ih e.on h1
        have h3 : e.on < listed.size := by omega
        simpa [Array.getD, h3] using h2⟩
      rw [h] at this
      cases this

theorem count_set (listed : Array Bool) (i : Nat) (h : listed.getD i true = false) : (listed.setIfInBounds i true).toList.count false + 1 = listed.toList.count false := by
  have hlt : i < listed.size := Nat.lt_of_not_le fun hle => by simp [Array.getD, Nat.not_lt.2 hle] at h
  have hv : listed.toList[i]'(by simpa using hlt) = false := by simpa [Array.getD, hlt] using h
  rw [Array.toList_setIfInBounds, List.count_set (by simpa using hlt), hv]
  have : 0 < listed.toList.count false := List.count_pos_iff.2 (by rw [← hv]; exact List.getElem_mem _)
  rw [if_pos (by simp), if_neg (by simp)]
  omega

section
variable {P : Program} {ops : Array Oper} {Q : Exit → Act → World → Prop}

theorem pool {D : List Nat} {a0 : Act} (hf : Fits ops D a0.tmps.size) (R : (Nat → Bool) → (Nat → Value) → World → Prop)
    (hstep : ∀ (L : Nat → Bool) x w a i o d, R L x w → FrameOk ops a0 L x a → ops[i]? = some o → o.dst = some d → L i = false → (∀ e ∈ o.after, Region.binds .any e = true → L e.on = true) →
      ∃ v w', (execOp a.eval o).run P w = .ok (.value v) w' ∧ R (fun j => if j = i then true else L j) (fun s => if s = d then v else x s) w')
    (hend : ∀ x w, R (fun _ => true) x w → Q .normal (lay D x a0) w) :
    ∀ (fuel : Nat) (listed : Array Bool) (x : Nat → Value) (a : Act) (w : World), listed.size = ops.size → listed.toList.count false ≤ fuel →
      R (fun i => listed.getD i true) x w → FrameOk ops a0 (fun i => listed.getD i true) x a → wpAny P .any ops Q fuel listed a w := by
  have fin : ∀ (listed : Array Bool) (x : Nat → Value) (a : Act) (w : World), (∀ i, listed.getD i true = true) → R (fun i => listed.getD i true) x w → FrameOk ops a0 (fun i => listed.getD i true) x a → Q .normal a w := by
    intro listed x a w hall hR hF
    have e : (fun i => listed.getD i true) = fun _ => true := funext hall
    rw [e] at hR hF
    have hl := lay_spec x D a0 (fun d hd => (hf.all d hd).1)
    have ea : a = lay D x a0 := by
      refine act_ext (hF.defers.trans hl.2.1.symm) (hF.size.trans hl.1.symm) fun s => ?_
      rw [hl.2.2 s]
      by_cases hs : s ∈ D
      · rw [if_pos hs]
        obtain ⟨_, i, o, ho, hd⟩ := hf.all s hs
        exact hF.done i o s ho hd rfl
      · rw [if_neg hs]
        refine hF.rest s fun i o ho hd => ?_
        obtain ⟨d, h1, h2, _⟩ := hf.dst i o ho
        rw [hd] at h1
        exact absurd (Option.some.inj h1 ▸ h2) hs
    rw [ea]
    exact hend x w hR
  intro fuel
  induction fuel with
  | zero =>
    intro listed x a w hs hc hR hF
    have hall : ∀ i, listed.getD i true = true := by
      intro i
      cases hi : listed.getD i true with
      | true => rfl
      | false => have := count_set listed i hi; omega
    refine ⟨?_, fin listed x a w hall hR hF⟩
    refine List.eq_nil_iff_forall_not_mem.2 fun i hi => ?_
    have := (mem_ready.1 hi).2.1
    rw [hall i] at this
    cases this
  | succ fuel ih =>
    intro listed x a w hs hc hR hF
    refine ⟨fun h0 => fin listed x a w (ready_nil hf hs h0) hR hF, fun i hi => ?_⟩
    obtain ⟨hlt, hi0, o, ho, hdep⟩ := mem_ready.1 hi
    obtain ⟨d, hd, hdD, hdn⟩ := hf.dst i o ho
    have hdep' : ∀ e ∈ o.after, Region.binds .any e = true → listed.getD e.on true = true := fun e he hb => by
      have h1 := hdep e he hb
      by_cases h2 : e.on < listed.size
      · simpa [Array.getD, h2] using h1
      · simp [Array.getD, h2]
    obtain ⟨v, w', hrun, hR'⟩ := hstep _ x w a i o d hR hF ho hd hi0 hdep'
    unfold wpOp
    rw [ho]
    show if Region.wanted o (yielded ops a.tmps) = true then _ else _
    have hw : Region.wanted o (yielded ops a.tmps) = true := by unfold Region.wanted; rw [hf.plain i o ho]
    rw [if_pos hw]
    refine Or.inl ?_
    unfold Oper.wp
    rw [hrun, Oper.upon_value]
    have hset : (fun j => (listed.setIfInBounds i true).getD j true) = fun j => if j = i then true else listed.getD j true := by
      funext j
      by_cases h : j = i
      · subst h
        by_cases h2 : j < listed.size <;> simp [Array.getD, h2]
      · by_cases h2 : j < listed.size
        · simp [Array.getD, h2, h, Ne.symm h]
        · simp [Array.getD, h2, h]
    refine ih _ (fun s => if s = d then v else x s) _ w' (by simpa using hs) (by have := count_set listed i hi0; omega) (by rw [hset]; exact hR') ?_
    rw [hset, hd]
    have hda : d < a.tmps.size := by rw [hF.size]; exact hdn
    refine ⟨(defers_put _ _ _).trans hF.defers, (size_put _ _ _).trans hF.size, fun j o' d' hj hd' hL => ?_, fun s hs' => ?_⟩
    · rw [getD_put _ _ _ _ hda]
      by_cases h : d' = d
      · simp [h]
      · rw [if_neg h, if_neg h]
        have hji : j ≠ i := fun e => by
          subst e
          rw [ho] at hj
          obtain rfl := Option.some.inj hj
          rw [hd] at hd'
          exact h (Option.some.inj hd').symm
        simp only [hji, if_false] at hL
        exact hF.done j o' d' hj hd' hL
    · have hsd : s ≠ d := fun e => by
        subst e
        have := hs' i o ho hd
        simp at this
      rw [getD_put _ _ _ _ hda, if_neg hsd]
      refine hF.rest s fun j o' hj hd' => ?_
      have := hs' j o' hj hd'
      by_cases hji : j = i
      · simp [hji] at this
      · simpa [hji] using this

/-- ████ THE LAW ████ -/
theorem wp_region_pool {id : Nat} {a0 : Act} {w : World} {D : List Nat} (hm : P.follows .mixedOrders = true) (hf : Fits ops D a0.tmps.size) (R : (Nat → Bool) → (Nat → Value) → World → Prop) (x0 : Nat → Value)
    (h0 : R (fun i => !decide (i < ops.size)) x0 w.drew)
    (hstep : ∀ (L : Nat → Bool) x w a i o d, R L x w → FrameOk ops a0 L x a → ops[i]? = some o → o.dst = some d → L i = false → (∀ e ∈ o.after, Region.binds .any e = true → L e.on = true) →
      ∃ v w', (execOp a.eval o).run P w = .ok (.value v) w' ∧ R (fun j => if j = i then true else L j) (fun s => if s = d then v else x s) w')
    (hend : ∀ x w, R (fun _ => true) x w → Q .normal (lay D x a0) w) : (Code.region id ops true).wp P Q a0 w := by
  have e : (fun i => (Array.replicate ops.size false).getD i true) = fun i => !decide (i < ops.size) := by
    funext i
    by_cases h : i < ops.size <;> simp [Array.getD, h]
  refine wp_region_any hm (pool hf R hstep hend ops.size _ x0 a0 w.drew (by simp) ?_ (by rw [e]; exact h0) ?_)
  · exact Nat.le_trans (List.count_le_length (a := false)) (by simp)
  · rw [e]
    refine ⟨rfl, rfl, fun i o d ho _ hL => ?_, fun _ _ => rfl⟩
    have : i < ops.size := (Array.getElem?_eq_some_iff.1 ho).1
    simp [this] at hL

/-- The laid slots as moves of constants: so that the walk's own steps write the frame. -/
def movesOf (D : List Nat) (x : Nat → Value) : List Oper := D.map fun d => { dst := some d, op := .move (.const (x d)), type := 0, pos := "", after := #[], guard := none }

theorem lay_of_moves (x : Nat → Value) : ∀ (D : List Nat) (a : Act) (w : World), wpList P ops Q (movesOf D x) a w → Q .normal (lay D x a) w
  | [], _, _, h => h
  | d :: D, a, w, h => by
    refine lay_of_moves x D (a.put (some d) (x d)) w ?_
    have h' : wpList P ops Q ({ dst := some d, op := .move (.const (x d)), type := 0, pos := "", after := #[], guard := none } :: movesOf D x) a w := h
    unfold wpList at h'
    rw [if_pos (show Region.wanted _ _ = true from rfl)] at h'
    rcases h' with h' | ⟨h', _⟩
    · exact h'
    · exact absurd (show noRoomEvent ∈ (#[] : Array Event) from h'.1) (by simp)
end
end Go.Pool

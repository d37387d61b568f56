import Derived.Test.YbulkhwaR65
namespace Go.Proofs.Ybulkhwa
open Go.RowKit Go.Pool

def Fx.K (X : Fx) (q1 D I : Nat) : Mb := { C := q1 + 10, S := X.n0 + 6, D := D, M := X.n0 + 8, I := I, F := X.q0 + 1, A := q1 + 1, G := q1, N := X.N, t := X.t, st := X.sT }
def Fx.R (X : Fx) : Rb := { O := X.n0 + 1, X := X.n0 + 2, LO := X.n0 + 3, J := X.n0 + 4, LI := X.n0 + 5 }
def Fx.B (X : Fx) (q1 : Nat) : Cp := { c := q1 + 2, g := q1 + 3, h := q1 + 4, f := X.n0, s := q1 + 6 }
def Fx.nm (X : Fx) (u : Nat) (mem : Bool) : Nm := { hp := X.hp, hn := X.hn, hc := X.hc, L := X.L, vr := fun j => (X.V j : Int), it := ⟨#[120]⟩, iv := X.iv, cnt := X.cn, lvl := X.lvl, lb := X.q0 + 2, fb := X.q0 + 3, lv := X.lv, rt := if mem then (u : Int) else -1 }

/-- the manager as it is made -/
def Fx.mgr (X : Fx) (q1 D I : Nat) (lp : Option Addr) (ln : Nat) : Array Value :=
  mgv (some ⟨X.n0 + 1, 0, none⟩, X.N, X.N) (some ⟨X.n0 + 2, 0, none⟩, X.N, X.N) (some ⟨X.n0 + 3, 0, none⟩, X.N, X.N) (some ⟨X.n0 + 4, 0, none⟩, X.N, X.N) (some ⟨X.n0 + 5, 0, none⟩, X.N, X.N) (some ⟨X.n0 + 6, 0, none⟩, X.N + 1, X.N + 1) (some ⟨X.n0 + 7, 0, none⟩, X.N, X.N) (some ⟨X.n0 + 8, 0, none⟩, X.N, X.N) (lp, ln, ln) (some ⟨X.q0 + 1, 0, none⟩, 1, 1) (some ⟨q1, 0, none⟩, X.N, X.N) (some ⟨q1 + 1, 0, none⟩, X.N, X.N) (X.B q1).vals X.N D I

structure Made4 (X : Fx) (q1 u : Nat) (aU : Int) (mem : Bool) (D I : Nat) (w : World) : Prop where
  ok : (X.K q1 D I).Ok
  wh : Whole (X.K q1 D I) X.R (X.B q1) w (X.nm u mem) (nd4 X.N u aU mem) (in4 X.N u mem)
  ap : Apart (X.K q1 D I) X.R (X.B q1) (X.nm u mem)
  at_ : (X.B q1).At w X.fr (.iface 98 (.pointer (some ⟨q1 + 5, 0, none⟩)))
  c30 : w.cell? ⟨q1 + 10, 30, none⟩ = some (.slice none 0 0)
  fC : ∀ j, w.frozen? ⟨q1 + 10, j, none⟩ = false
  rt : X.lvl = true → RtOk (X.K q1 D I) (nd4 X.N u aU mem) (if mem then (u : Int) else -1)
  only : Only [] X.w w
  own : w.ownsRow X.bs 58 2 (.slice X.hp X.hn X.hc) X.hn (hcells X.L X.V X.hn)
  row : ∀ i, 1 ≤ i → i ≤ 7 → Row w (X.n0 + i) (len7 X.N i) (g7 i)
  nB : ∀ b, b ∈ [q1 + 10, X.q0 + 1, q1, q1 + 1] → b ∉ [q1 + 2, q1 + 3, q1 + 4]
  nl : X.lvl = true → X.q0 + 2 ∉ [q1 + 2, q1 + 3, q1 + 4]
  ord : X.n0 = X.w.heap.size ∧ X.n0 + 9 ≤ X.bs ∧ X.bs ≤ X.q0 ∧ X.q0 + 2 ≤ q1 ∧ (X.lvl = true → X.q0 + 4 ≤ q1) ∧ q1 + 11 ≤ w.heap.size ∧ (∀ a, X.hp = some a → a.block < X.q0) ∧ q1 + 8 ≤ D ∧ D ≤ q1 + 9 ∧ q1 + 8 ≤ I ∧ I ≤ q1 + 9 ∧ D ≠ I
  ln : w.cell? ⟨q1 + 10, 21, none⟩ = some (if X.lvl then .slice (some ⟨X.q0 + 2, 0, none⟩) 1 1 else .slice none 0 0)

set_option maxHeartbeats 4000000 in
theorem made4 {X : Fx} {q1 u : Nat} {aU : Int} {mem : Bool} {lp : Option Addr} {ln : Nat} {wI b : World} {D I : Nat} (h : D5 X q1 u aU mem (.slice lp ln ln) wI) (hs : wI.heap.size = q1 + 8) (h2 : two X.N X.hp X.hn X.hc X.cn X.iv wI D I b)
    (ht : X.t < X.N) (hN : X.N ≤ 4) (hst : X.sT < 65536) (hu : u < X.N) (hm : mem = true → u ≠ X.t) (hL : ∀ j, -1 ≤ X.L j ∧ X.L j < X.N) (hn : X.hn ≤ 1024) :
    Made4 X q1 u aU mem D I (b.alloc (.cells (X.mgr q1 D I lp ln) 89)) ∧ (b.alloc (.cells (X.mgr q1 D I lp ln) 89)).cell? ⟨q1 + 10, 31, none⟩ = some .nilIface := by
  have sb := two_size _ _ _ _ _ _ h2
  rw [hs] at sb
  have hDI : (D = q1 + 8 ∧ I = q1 + 9) ∨ (I = q1 + 8 ∧ D = q1 + 9) := by
    rcases h2 with ⟨e1, e2, _⟩ | ⟨e1, e2, _⟩
    · exact Or.inl ⟨by omega, by omega⟩
    · exact Or.inr ⟨by omega, by omega⟩
  have ob : Only [] wI b := by
    rcases h2 with ⟨_, _, e⟩ | ⟨_, _, e⟩ <;> (rw [e]; exact (((Only.refl _ _).drew.alloc _).alloc _))
  obtain ⟨w, hw⟩ : ∃ w, w = b.alloc (.cells (X.mgr q1 D I lp ln) 89) := ⟨_, rfl⟩
  have ow : Only [] wI w := by rw [hw]; exact ob.alloc _
  have sw : w.heap.size = q1 + 11 := by rw [hw]; simp [sb]
  have hD : Row w D X.N (fun _ => .int .i32 0) := by
    have hb : Row b D X.N (fun _ => .int .i32 0) := by
      rcases h2 with ⟨e1, e2, e⟩ | ⟨e1, e2, e⟩
      · rw [e, e1]
        exact (Row.new wI.drew (i32Z X.N) 21 X.N _ (fun j hj => i32Z_get X.N j hj)).alloc (by simp) _
      · rw [e, e2]
        have := Row.new (wI.drew.alloc (.cells #[.slice X.hp X.hn X.hc, .int .i32 X.cn, .int .u32 X.iv] 60)) (i32Z X.N) 21 X.N (fun _ => .int .i32 0) (fun j hj => i32Z_get X.N j hj)
        simpa using this
    rw [hw]; exact hb.alloc (by omega) _
  have hI : Row w I 3 (fun j => if j = 0 then .slice X.hp X.hn X.hc else if j = 1 then .int .i32 X.cn else .int .u32 X.iv) := by
    have g : ∀ j, j < 3 → (#[.slice X.hp X.hn X.hc, .int .i32 X.cn, .int .u32 X.iv] : Array Value)[j]? = some (if j = 0 then .slice X.hp X.hn X.hc else if j = 1 then .int .i32 X.cn else .int .u32 X.iv) := by
      intro j hj
      have : j = 0 ∨ j = 1 ∨ j = 2 := by omega
      rcases this with rfl | rfl | rfl <;> rfl
    have hb : Row b I 3 (fun j => if j = 0 then .slice X.hp X.hn X.hc else if j = 1 then .int .i32 X.cn else .int .u32 X.iv) := by
      rcases h2 with ⟨e1, e2, e⟩ | ⟨e1, e2, e⟩
      · rw [e, e2]
        have := Row.new (wI.drew.alloc (.cells (i32Z X.N) 21)) #[.slice X.hp X.hn X.hc, .int .i32 X.cn, .int .u32 X.iv] 60 3 _ g
        simpa using this
      · rw [e, e1]
        exact (Row.new wI.drew _ 60 3 _ g).alloc (by simp) _
    rw [hw]; exact hb.alloc (by omega) _
  have hC : ∀ j, w.cell? ⟨q1 + 10, j, none⟩ = (X.mgr q1 D I lp ln)[j]? := by
    intro j
    rw [hw, ← sb, World.cell?_alloc_new]
  have fC : ∀ j, w.frozen? ⟨q1 + 10, j, none⟩ = false := by
    intro j
    rw [hw, ← sb]; exact World.frozen?_alloc_new _ _ _ _
  rw [← hw]
  clear hw
  have d := h.d1.only ow
  have q2 := h.q2
  have q4 := h.q4
  have bq := h.d1.bq
  have rg := h.g.only ow (h.g.lt (by omega)) (by simp)
  have ra := h.a.only ow (h.a.lt (by omega)) (by simp)
  have rc := h.c.only ow (h.c.lt (by decide)) (by simp)
  obtain ⟨gg, hgg⟩ := h.got
  have rgo := hgg.only ow (hgg.lt (by decide)) (by simp)
  have rh := h.h.only ow (h.h.lt (by decide)) (by simp)
  have s6 := (ow.cell (p := ⟨q1 + 6, 0, none⟩) (by show q1 + 6 < _; omega) (by simp)).trans h.s
  have row := d.t8.row
  have c1 : ∀ i j v, 1 ≤ i → i ≤ 7 → j < len7 X.N i → g7 i j = v → w.cell? ⟨X.n0 + i, j, none⟩ = some v := fun i j v h1 h7 hj e => e ▸ (row i h1 h7).cell j hj
  have hnd : (X.K q1 D I).all.Nodup := by
    simp only [Fx.K, Mb.all, List.nodup_cons, List.mem_cons, List.not_mem_nil, not_or, or_false, not_false_eq_true, List.nodup_nil, and_true]
    rcases hDI with ⟨rfl, rfl⟩ | ⟨rfl, rfl⟩ <;> (refine ⟨⟨?_, ?_, ?_, ?_, ?_, ?_, ?_⟩, ⟨?_, ?_, ?_, ?_, ?_, ?_⟩, ⟨?_, ?_, ?_, ?_, ?_⟩, ⟨?_, ?_, ?_, ?_⟩, ⟨?_, ?_, ?_⟩, ⟨?_, ?_⟩, ?_⟩ <;> omega)
  have hlen : ∀ i, 1 ≤ i → i ≤ 7 → X.t < len7 X.N i := by
    intro i _ _
    unfold len7
    split
    · omega
    · split <;> omega
  refine ⟨⟨⟨hnd, ht, hN, hst⟩, ⟨⟨?_, ?_, ?_, ?_, ?_, ?_, ?_, ?_, ?_, ?_, ?_, ra, rg, fC, d.fF⟩, ?_, ?_, ?_, ?_, ?_, ?_, hI.cell 0 (by decide), hI.cell 1 (by decide), ?_, ?_, ?_, ?_, ?_, ?_, ?_, ?_, ?_⟩, ?_, ⟨?_, rc, ⟨gg, rgo⟩, ⟨_, rh⟩, d.t8.box, s6⟩, ?_, fC, ?_, d.t8.only, d.own, row, ?_, ?_, ?_, ?_⟩, ?_⟩
  · rw [show (X.K q1 D I).C = q1 + 10 from rfl, hC]; rfl
  · rw [show (X.K q1 D I).C = q1 + 10 from rfl, hC]; rfl
  · rw [show (X.K q1 D I).C = q1 + 10 from rfl, hC]; rfl
  · rw [show (X.K q1 D I).C = q1 + 10 from rfl, hC]; rfl
  · rw [show (X.K q1 D I).C = q1 + 10 from rfl, hC]; rfl
  · rw [show (X.K q1 D I).C = q1 + 10 from rfl, hC]; rfl
  · rw [show (X.K q1 D I).C = q1 + 10 from rfl, hC]; rfl
  · exact c1 6 X.t _ (by decide) (by decide) (hlen 6 (by decide) (by decide)) rfl
  · exact hD.cell X.t ht
  · exact d.t8.st
  · exact hI.cell 2 (by decide)
  · rw [show (X.K q1 D I).C = q1 + 10 from rfl, hC]; rfl
  · rw [show (X.K q1 D I).C = q1 + 10 from rfl, hC]; rfl
  · rw [show (X.K q1 D I).C = q1 + 10 from rfl, hC]; rfl
  · rw [show (X.K q1 D I).C = q1 + 10 from rfl, hC]; rfl
  · rw [show (X.K q1 D I).C = q1 + 10 from rfl, hC]; rfl
  · rw [show (X.K q1 D I).C = q1 + 10 from rfl, hC]; rfl
  · exact c1 3 X.t _ (by decide) (by decide) (hlen 3 (by decide) (by decide)) rfl
  · exact c1 5 X.t _ (by decide) (by decide) (hlen 5 (by decide) (by decide)) rfl
  · intro l hl
    exact c1 4 l _ (by decide) (by decide) hl rfl
  · intro l hl
    exact c1 2 l _ (by decide) (by decide) hl rfl
  · have e := (ops7_at X.t).1
    rw [show 3 * X.t = X.t * 3 by omega] at e
    exact c1 1 (X.t * 3) _ (by decide) (by decide) (by simp [len7]; omega) e
  · have e := (ops7_at X.t).2.1
    rw [show 3 * X.t = X.t * 3 by omega] at e
    exact c1 1 (X.t * 3 + 1) _ (by decide) (by decide) (by simp [len7]; omega) e
  · have e := (ops7_at X.t).2.2
    rw [show 3 * X.t = X.t * 3 by omega] at e
    exact c1 1 (X.t * 3 + 2) _ (by decide) (by decide) (by simp [len7]; omega) e
  · refine ⟨?_, fun j _ => hL j, hn⟩
    rcases d.own.2 with ⟨e1, e2⟩ | ⟨g, cap, cur, e1, _, e3, e4, _⟩
    · simp only [Value.slice.injEq] at e1
      exact Or.inl ⟨e1.1, e1.2.1, e1.2.2⟩
    · simp only [Value.slice.injEq, true_and] at e1
      refine Or.inr ⟨g, e1.1, by rw [show (X.nm u mem).hc = X.hc from rfl, e1.2]; exact e4, (Array.getElem?_eq_some_iff.1 e3).1, fun j hj => ?_⟩
      have hj' : j < X.hn := hj
      have o := d.own
      rw [e1.1] at o
      have a1 := hcells_at X.L X.V X.hn j hj'
      exact ⟨by rw [o.cellAt _ (by omega)]; exact a1.1, by rw [o.cellAt _ (by omega)]; exact a1.2⟩
  · rcases d.lv with ⟨k1, k2, k3, k4, k5, _⟩ | ⟨k1, k2, k3⟩
    · refine Or.inl ⟨k1, ?_, k3, k4, k5⟩
      rw [show (X.K q1 D I).C = q1 + 10 from rfl, show (X.nm u mem).lb = X.q0 + 2 from rfl, hC, ← k2]; rfl
    · refine Or.inr ⟨k1, ?_, k3⟩
      rw [show (X.K q1 D I).C = q1 + 10 from rfl, hC, ← k2]; rfl
  · refine ⟨?_, ?_, ?_, ?_⟩
    · intro x hx
      simp only [Fx.K, Fx.R, Fx.B, List.mem_cons, List.not_mem_nil, or_false, not_or] at hx ⊢
      rcases hDI with ⟨rfl, rfl⟩ | ⟨rfl, rfl⟩ <;> (refine ⟨?_, ?_, ?_, ?_⟩ <;> omega)
    · intro a ha
      have := h.d1.ob a ha
      simp only [Fx.K, Fx.B, List.mem_cons, List.not_mem_nil, or_false, not_or]
      refine ⟨?_, ?_, ?_, ?_⟩ <;> omega
    · intro hl
      have := q4 hl
      simp only [Fx.K, Fx.B, Fx.nm, Mb.all, List.mem_cons, List.not_mem_nil, or_false, not_or]
      rcases hDI with ⟨rfl, rfl⟩ | ⟨rfl, rfl⟩ <;> (refine ⟨⟨?_, ?_, ?_, ?_⟩, ⟨?_, ?_, ?_, ?_⟩, ⟨?_, ?_, ?_, ?_, ?_, ?_, ?_, ?_⟩, ⟨?_, ?_, ?_, ?_, ?_, ?_, ?_, ?_⟩, ?_⟩ <;> omega)
    · simp only [Fx.K, Fx.B, List.mem_cons, List.not_mem_nil, or_false, not_or]
      refine ⟨?_, ?_, ?_, ?_, ?_⟩ <;> omega
  · simp only [Fx.B, List.nodup_cons, List.mem_cons, List.not_mem_nil, not_or, or_false, not_false_eq_true, List.nodup_nil, and_true]
    refine ⟨⟨?_, ?_, ?_, ?_⟩, ⟨?_, ?_, ?_⟩, ⟨?_, ?_⟩, ?_⟩ <;> omega
  · rw [hC]; rfl
  · intro _
    cases mem
    · exact Or.inl (by show (-1 : Int) < 0; decide)
    · refine Or.inr ⟨u, rfl, hu, hm rfl, ?_, ?_⟩
      · show (if u < X.N then (-1 : Int) else 0) = -1
        rw [if_pos hu]
      · show (if u < X.N then (-1 : Int) else 0) = -1
        rw [if_pos hu]
  · intro x hx
    simp only [List.mem_cons, List.not_mem_nil, or_false, not_or] at hx ⊢
    refine ⟨?_, ?_, ?_⟩ <;> omega
  · intro hl
    have := q4 hl
    simp only [List.mem_cons, List.not_mem_nil, or_false, not_or]
    refine ⟨?_, ?_, ?_⟩ <;> omega
  · exact ⟨bq.1, bq.2.1, bq.2.2, q2, q4, by omega, h.d1.ob, by omega, by omega, by omega, by omega, by omega⟩
  · rw [hC]
    rcases d.lv with ⟨k1, k2, _⟩ | ⟨k1, k2, _⟩
    · rw [if_pos k1, ← k2]; rfl
    · rw [k1, if_neg (by decide), ← k2]; rfl
  · rw [hC]; rfl

/-- the store of 'pre' -/
theorem Made4.err {X : Fx} {q1 u : Nat} {aU : Int} {mem : Bool} {D I : Nat} {w : World} (h : Made4 X q1 u aU mem D I w) {v0 : Value} (c31 : w.cell? ⟨q1 + 10, 31, none⟩ = some v0) (v : Value) :
    Made4 X q1 u aU mem D I (w.setCell ⟨q1 + 10, 31, none⟩ v) ∧ (w.setCell ⟨q1 + 10, 31, none⟩ v).cell? ⟨q1 + 10, 31, none⟩ = some v := by
  obtain ⟨o1, o2, o3, o4, o5, o6, o7, _⟩ := h.ord
  have o : Only [q1 + 10] w (w.setCell ⟨q1 + 10, 31, none⟩ v) := (Only.refl _ _).setCell (by simp) _
  have cc : ∀ j, j ≠ 31 → (w.setCell ⟨q1 + 10, 31, none⟩ v).cell? ⟨q1 + 10, j, none⟩ = w.cell? ⟨q1 + 10, j, none⟩ := fun j hj => World.cell?_setCell_other _ _ _ _ (by intro hx; injection hx; omega)
  refine ⟨⟨h.ok, h.wh.keep h.ok h.ap (o.mono (by simp [Fx.K])) (fun j _ h31 => cc j h31) (fun j => by rw [World.frozen?_setCell]; exact h.fC j), h.ap, h.at_.only o ?_, (cc 30 (by decide)).trans h.c30, fun j => by rw [World.frozen?_setCell]; exact h.fC j, h.rt, h.only.setNew (p := ⟨q1 + 10, 31, none⟩) (by show X.w.heap.size ≤ q1 + 10; omega) _, own_only h.own o ?_, fun i h1 h7 => (h.row i h1 h7).only o (by omega) (by simp; omega), h.nB, h.nl, by rw [World.size_setCell]; exact h.ord, (cc 21 (by decide)).trans h.ln⟩, World.cell?_setCell_same _ _ _ c31⟩
  · intro b hb
    simp only [Fx.B, List.mem_cons, List.not_mem_nil, or_false] at hb ⊢
    omega
  · intro p hp
    cases e : X.hp with
    | none => rw [e] at hp; simp [Value.ownBlock] at hp
    | some a =>
      have := o7 a e
      rw [e] at hp
      simp [Value.ownBlock] at hp
      simp
      omega

def evOf (pre : Bool) (q1 : Nat) : Value := if pre then .iface 98 (.pointer (some ⟨q1 + 7, 0, none⟩)) else .nilIface

/-- the call of 'wait' -/
theorem wait4 {X : Fx} {q1 u : Nat} {aU : Int} {mem : Bool} {D I : Nat} {w : World} (h : Made4 X q1 u aU mem D I w) (left : Int) (pre : Bool) (hcn : 0 < X.cn → 0 < X.hn) (c31 : w.cell? ⟨q1 + 10, 31, none⟩ = some (evOf pre q1)) :
    Calls Yba.prog 11 #[.pointer (some ⟨q1 + 10, 0, none⟩), .int .i32 X.t, .int .i32 X.t, .int .i32 left] w fun e w' => e = .returned (.tuple #[]) ∧ Fin (X.K q1 D I) (X.B q1) w w' (X.nm u mem) (nd4 X.N u aU mem) (in4 X.N u mem) (if X.fr then .iface 98 (.pointer (some ⟨q1 + 5, 0, none⟩)) else .nilIface) (evOf pre q1) ((X.nm u mem).due left pre) := by
  refine (wait_any (X.K q1 D I) h.ok X.R (X.B q1) w (X.nm u mem) _ _ left pre X.fr (.iface 98 (.pointer (some ⟨q1 + 5, 0, none⟩))) (evOf pre q1) ⟨_, _, rfl⟩ _ rfl h.wh h.ap h.at_ (fun h0 => hcn (by have h1 : (0 : Int) < (X.cn : Int) := h0; omega)) h.rt h.c30 c31 ?_).mono ?_
  · cases pre
    · exact Or.inl ⟨rfl, rfl⟩
    · exact Or.inr ⟨rfl, _, _, rfl⟩
  · rintro e w' ⟨rfl, wR, hR, hJ⟩
    exact ⟨rfl, fin_of h.ok h.wh h.ap h.at_ c31 h.nB h.nl hR hJ⟩

end Go.Proofs.Ybulkhwa

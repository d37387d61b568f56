import Derived.Test.YbulkhwaL7
import Derived.LaidEql
namespace Go.Proofs.Ybulkhwa
open Go.RowKit Go.Pool

/-- the world behind the call, as the law reads it -/
structure Z4 (X : Fx) (q1 u : Nat) (aU : Int) (mem : Bool) (left : Int) (pre : Bool) (w : World) : Prop where
  only : Only [] X.w w
  o0 : w.cell? ⟨X.n0 + 1, X.t * 3, none⟩ = some (.int .u8 114)
  o1 : w.cell? ⟨X.n0 + 1, X.t * 3 + 1, none⟩ = some (.int .i64 (X.t * 7 + 1))
  o2 : w.cell? ⟨X.n0 + 1, X.t * 3 + 2, none⟩ = some (.string ⟨#[120]⟩)
  x : ∀ l, l < X.N → w.cell? ⟨X.n0 + 2, l, none⟩ = some (.int .i64 (l * 7 + 1))
  ho : HoldAt w X.hp X.hn X.hc X.N X.L (fun j => (X.V j : Int))
  fr : w.cell? ⟨X.n0, 0, none⟩ = some (.bool X.fr)
  s : w.cell? ⟨q1 + 6, 0, none⟩ = some (.iface 98 (.pointer (some ⟨q1 + 5, 0, none⟩)))
  calls : w.cell? ⟨q1 + 2, 0, none⟩ = some (.int .i64 (if (X.nm u mem).due left pre then 1 else 0))
  got : (X.nm u mem).due left pre = true → ∃ v, ∀ j, j < 5 → w.cell? ⟨q1 + 3, j, none⟩ = (waitC (X.t * 7 + 1) ⟨#[120]⟩ v)[j]?
  goth : (X.nm u mem).due left pre = true → ∃ v', w.cell? ⟨q1 + 4, 0, none⟩ = some v' ∧ Ints w v' (sorted (zsTo X.L X.t X.hn))
  err : w.cell? ⟨q1 + 10, 31, none⟩ = some (if (X.nm u mem).due left pre then (if X.fr then .iface 98 (.pointer (some ⟨q1 + 5, 0, none⟩)) else .nilIface) else evOf pre q1)
  c22 : w.cell? ⟨q1 + 10, 22, none⟩ = some (.slice (some ⟨X.q0 + 1, 0, none⟩) 1 1)
  c23 : w.cell? ⟨q1 + 10, 23, none⟩ = some (.slice (some ⟨q1 + 1, 0, none⟩) X.N X.N)
  c24 : w.cell? ⟨q1 + 10, 24, none⟩ = some (.slice (some ⟨q1, 0, none⟩) X.N X.N)
  lev : ∃ lb lc fb fc, w.cell? ⟨q1 + 10, 21, none⟩ = some (.slice (some ⟨lb, 0, none⟩) (X.nm u mem).tot lc) ∧ (X.nm u mem).id < (X.nm u mem).tot ∧ w.cell? ⟨lb, (X.nm u mem).id * 3, none⟩ = some (.int .i32 0) ∧ w.cell? ⟨lb, (X.nm u mem).id * 3 + 1, none⟩ = some (.int .u32 (if (X.nm u mem).cur = 0 then (X.lv : Int) else (X.iv : Int))) ∧ w.cell? ⟨lb, (X.nm u mem).id * 3 + 2, none⟩ = some (.int .i32 (jRt X.t (X.nm u mem).root)) ∧
    w.cell? ⟨X.q0 + 1, 0, none⟩ = some (.slice (some ⟨fb, 0, none⟩) (X.nm u mem).tot fc) ∧ w.cell? ⟨fb, (X.nm u mem).id, none⟩ = some (.int .i32 (X.nm u mem).id)
  g : Row w q1 (X.N * 4) (nodeC (jNd (nd4 X.N u aU mem) X.t X.sT (X.nm u mem).root))
  a : Row w (q1 + 1) X.N (i32s (upd (in4 X.N u mem) X.t (X.nm u mem).id))
  hN : 0 < X.N

theorem HoldAt.only {w w' : World} {hp : Option Addr} {hn hc N : Nat} {L vr : Nat → Int} {S : List Nat} (h : HoldAt w hp hn hc N L vr) (ho : Only S w w') (hS : ∀ a, hp = some a → a.block ∉ S) : HoldAt w' hp hn hc N L vr := by
  refine ⟨h.p.imp id ?_, h.b, h.n⟩
  rintro ⟨g, e1, e2, e3, e4⟩
  have := hS _ e1
  exact ⟨g, e1, e2, Nat.lt_of_lt_of_le e3 ho.size, fun j hj => ⟨(ho.cell (p := ⟨g, j * 2, none⟩) e3 this).trans (e4 j hj).1, (ho.cell (p := ⟨g, j * 2 + 1, none⟩) e3 this).trans (e4 j hj).2⟩⟩

theorem Z4.later {X : Fx} {q1 u : Nat} {aU : Int} {mem : Bool} {left : Int} {pre : Bool} {w w' : World} (h : Z4 X q1 u aU mem left pre w) (ho : Only [] w w') : Z4 X q1 u aU mem left pre w' := by
  have E : ∀ (b j : Nat) (v : Value), w.cell? ⟨b, j, none⟩ = some v → w'.cell? ⟨b, j, none⟩ = some v := fun b j v hv => (ho.cell (p := ⟨b, j, none⟩) (World.block_lt_of_cell? _ _ hv) (by simp)).trans hv
  refine ⟨h.only.trans ho, E _ _ _ h.o0, E _ _ _ h.o1, E _ _ _ h.o2, fun l hl => E _ _ _ (h.x l hl), h.ho.only ho (by simp), E _ _ _ h.fr, E _ _ _ h.s, E _ _ _ h.calls, fun hd => ?_, fun hd => ?_, E _ _ _ h.err, E _ _ _ h.c22, E _ _ _ h.c23, E _ _ _ h.c24, ?_, h.g.only ho (h.g.lt (by have := h.hN; omega)) (by simp), h.a.only ho (h.a.lt h.hN) (by simp), h.hN⟩
  · obtain ⟨v, hv⟩ := h.got hd
    refine ⟨v, fun j hj => ?_⟩
    have hv0 := hv j hj
    have : ∃ x, (waitC (X.t * 7 + 1) ⟨#[120]⟩ v)[j]? = some x := by
      have : j = 0 ∨ j = 1 ∨ j = 2 ∨ j = 3 ∨ j = 4 := by omega
      rcases this with rfl | rfl | rfl | rfl | rfl <;> exact ⟨_, rfl⟩
    obtain ⟨x, hx⟩ := this
    rw [hx] at hv0 ⊢
    exact E _ _ _ hv0
  · obtain ⟨v', e1, e2⟩ := h.goth hd
    exact ⟨v', E _ _ _ e1, e2.only ho (by simp)⟩
  · obtain ⟨lb, lc, fb, fc, e1, e2, e3, e4, e5, e6, e7⟩ := h.lev
    exact ⟨lb, lc, fb, fc, E _ _ _ e1, e2, E _ _ _ e3, E _ _ _ e4, E _ _ _ e5, E _ _ _ e6, E _ _ _ e7⟩

set_option maxHeartbeats 1000000 in
theorem z4 {X : Fx} {q1 u : Nat} {aU : Int} {mem : Bool} {left : Int} {pre : Bool} {D I : Nat} {w w' : World} (h : Made4 X q1 u aU mem D I w) (ht : X.t < X.N)
    (f : Fin (X.K q1 D I) (X.B q1) w w' (X.nm u mem) (nd4 X.N u aU mem) (in4 X.N u mem) (if X.fr then .iface 98 (.pointer (some ⟨q1 + 5, 0, none⟩)) else .nilIface) (evOf pre q1) ((X.nm u mem).due left pre)) : Z4 X q1 u aU mem left pre w' := by
  obtain ⟨o1, o2, o3, o4, o5, o6, o7, _⟩ := h.ord
  have on : Only [q1 + 10, X.q0 + 1, q1, q1 + 1, q1 + 2, q1 + 3, q1 + 4, X.q0 + 2] w w' := f.only
  have N1 : ∀ b, b ≤ X.q0 → b ∉ [q1 + 10, X.q0 + 1, q1, q1 + 1, q1 + 2, q1 + 3, q1 + 4, X.q0 + 2] := by
    intro b hb
    simp only [List.mem_cons, List.not_mem_nil, or_false, not_or]
    refine ⟨?_, ?_, ?_, ?_, ?_, ?_, ?_, ?_⟩ <;> omega
  have E : ∀ (b j : Nat) (v : Value), b ≤ X.q0 → w.cell? ⟨b, j, none⟩ = some v → w'.cell? ⟨b, j, none⟩ = some v := fun b j v hb hv => (on.cell (p := ⟨b, j, none⟩) (World.block_lt_of_cell? _ _ hv) (N1 b hb)).trans hv
  refine ⟨?_, E _ _ _ (by omega) h.wh.o0, E _ _ _ (by omega) h.wh.o1, E _ _ _ (by omega) h.wh.o2, fun l hl => E _ _ _ (by omega) (h.wh.x l hl), h.wh.ho.only on (fun a ha => N1 _ (by have := o7 a ha; omega)), E _ _ _ (by omega) h.at_.f, ?_, f.calls, f.got, fun hd => ?_, f.err, f.c22, f.c23, f.c24, f.lev, f.g, f.a, by omega⟩
  · have hs := h.only.size
    refine ⟨on.os.trans h.only.os, on.tape.trans h.only.tape, on.output.trans h.only.output, Nat.le_trans hs on.size, fun k hk _ => ?_⟩
    exact (on.block k (by omega) (N1 k (by omega))).trans (h.only.block k hk (by simp))
  · refine (on.cell (p := ⟨q1 + 6, 0, none⟩) (by show q1 + 6 < _; omega) ?_).trans h.at_.s
    simp only [List.mem_cons, List.not_mem_nil, or_false, not_or]
    refine ⟨?_, ?_, ?_, ?_, ?_, ?_, ?_, ?_⟩ <;> omega
  · obtain ⟨v', e1, e2, _⟩ := f.goth hd
    exact ⟨v', e1, e2⟩

theorem neq30' (k t : Int) (s : ByteArray) (w : World) : (binOp .neq 30 (.agg #[.int .u8 k, .int .i64 t, .string s]) (.agg #[.int .u8 k, .int .i64 t, .string s])).run Yba.prog w = .ok (.bool false) w := by
  go_simp

theorem comp98 : (Yba.prog.info? 98).map (·.comparable) = some true := by kernel_rfl
theorem some100 : (Yba.prog.info? 100).isSome = true := by kernel_rfl

theorem neq73 (a : Addr) (w : World) : (binOp .neq 73 (.iface 98 (.pointer (some a))) (.iface 98 (.pointer (some a)))).run Yba.prog w = .ok (.bool false) w := by
  have hc := comp98
  have hs := some100
  cases e1 : Yba.prog.info? 98 with
  | none => rw [e1] at hc; cases hc
  | some i =>
    cases e2 : Yba.prog.info? 100 with
    | none => rw [e2] at hs; cases hs
    | some j =>
      rw [e1] at hc
      have hc' : i.comparable = true := by simpa using hc
      simp only [binOp]
      simp [Op.equal, Op.maxDepth, run_equalIn_iface_ptr_same (P := Yba.prog) w 9998 a Yba.underlying73 Yba.underlying98 e1 hc' e2]

theorem jNd_neg (d : Nd) (t st : Nat) (rt : Int) (h : rt < 0) : (jNd d t st rt).l t = -1 ∧ (jNd d t st rt).r t = -1 ∧ (jNd d t st rt).a t = arrF st t ∧ (jNd d t st rt).h t = 1 := by
  rw [jNd, if_pos h]
  exact ⟨upd_same _ _ _, upd_same _ _ _, upd_same _ _ _, upd_same _ _ _⟩

/-- t below the member u -/
theorem jNd_mem (N u t st : Nat) (aU : Int) (hu : u < N) (hne : u ≠ t) :
    (jNd (nd4 N u aU true) t st u).l t = -1 ∧ (jNd (nd4 N u aU true) t st u).r t = -1 ∧ (jNd (nd4 N u aU true) t st u).a t = arrF st t ∧ (jNd (nd4 N u aU true) t st u).h t = 1 ∧ (jNd (nd4 N u aU true) t st u).h u = 2 ∧
    (arrF st t < aU → (jNd (nd4 N u aU true) t st u).l u = t ∧ (jNd (nd4 N u aU true) t st u).r u = -1) ∧ (¬ arrF st t < aU → (jNd (nd4 N u aU true) t st u).r u = t ∧ (jNd (nd4 N u aU true) t st u).l u = -1) := by
  have hn : ¬ (u : Int) < 0 := by omega
  have ht : t ≠ u := fun e => hne e.symm
  simp only [jNd, if_neg hn, Int.toNat_natCast, Nd.below]
  have ea : upd (nd4 N u aU true).a t (arrF st t) t = arrF st t := upd_same _ _ _
  have eu : upd (nd4 N u aU true).a t (arrF st t) u = aU := by rw [upd_other _ _ _ _ hne]; simp [nd4, upd]
  rw [ea, eu]
  by_cases h : arrF st t < aU
  · rw [if_pos h]
    refine ⟨?_, ?_, ?_, ?_, ?_, fun _ => ⟨?_, ?_⟩, fun k => absurd h k⟩
    · simp [Nd.leaf, upd, ht]
    · simp [Nd.leaf, upd]
    · simp [Nd.leaf, upd]
    · simp [Nd.leaf, upd, ht]
    · simp [upd]
    · simp [upd]
    · simp [Nd.leaf, upd, hne, nd4, nd3, hu]
  · rw [if_neg h]
    refine ⟨?_, ?_, ?_, ?_, ?_, fun k => absurd k h, fun _ => ⟨?_, ?_⟩⟩
    · simp [Nd.leaf, upd]
    · simp [Nd.leaf, upd, ht]
    · simp [Nd.leaf, upd]
    · simp [Nd.leaf, upd, ht]
    · simp [upd]
    · simp [upd]
    · simp [Nd.leaf, upd, hne, nd4, nd3, hu]

end Go.Proofs.Ybulkhwa

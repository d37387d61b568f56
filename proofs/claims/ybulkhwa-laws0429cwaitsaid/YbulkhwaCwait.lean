import Derived.Test.YbulkhwaCx
import Derived.Test.YbulkhwaCwOpen
namespace Go.Proofs.Ybulkhwa.Cwait
open Go.ChangeShapes Go.WideShapes Go.ChangeAt Go.RowKit

theorem own : ownKnob Yba.prog.godebug = none := by kernel_rfl
theorem laidOut : laidOutB Yba.prog = true := by kernel_rfl

theorem arg_u8 {H : Type} {enc : TypeId × Value → H} {W : World} {base : Nat} {spare : Nat → Bool} {held : Bool} {v : Value} {d : DataW H} {ps : List MemPlace}
    (h : DataW.Trod enc Yba.prog W base spare held 5 v d ps) (hv : ∃ n, v = .int .u8 n) : ∃ m : Nat, v = .int .u8 m ∧ m < 256 := by
  obtain ⟨n, rfl⟩ := hv
  obtain ⟨fuel, hf⟩ := h
  obtain ⟨z, e, _, f⟩ := DataW.trod_int Yba.underlying5 hf
  simp [Value.cells] at e
  subst e
  obtain ⟨m, rfl, hm⟩ := u8_of f
  exact ⟨m, rfl, hm⟩

theorem arg_u16 {H : Type} {enc : TypeId × Value → H} {W : World} {base : Nat} {spare : Nat → Bool} {held : Bool} {v : Value} {d : DataW H} {ps : List MemPlace}
    (h : DataW.Trod enc Yba.prog W base spare held 52 v d ps) (hv : ∃ n, v = .int .u16 n) : ∃ m : Nat, v = .int .u16 m ∧ m < 65536 := by
  obtain ⟨n, rfl⟩ := hv
  obtain ⟨fuel, hf⟩ := h
  obtain ⟨z, e, _, f⟩ := DataW.trod_int Yba.underlying52 hf
  simp [Value.cells] at e
  subst e
  obtain ⟨m, rfl, hm⟩ := u16_of f
  exact ⟨m, rfl, hm⟩

set_option maxRecDepth 100000 in
theorem lifted (os : Os) (started : os.Started) (H : Type) (enc : TypeId × Value → H) :
    ReturnsInHanded {} Yba.checked os 4 .any (Rows.lawS0429CWaitSpec.pre6 enc Yba.prog Yba.f4 Rows.lawS0429CWaitRow.domain false) (Rows.lawS0429CWaitSpec.post enc Yba.prog Yba.f4 false true false false) := by
  refine returnsInHanded_of_change (C := Yba.checked) own started (by kernel_rfl) Yba.func4
    (ChangeSpec.witness6 (enc := enc) (C := Yba.checked) false ⟨#[], #[.int .u8 0, .int .u8 0, .int .u8 0, .slice none 0 0, .bool false, .int .u8 0, .int .u8 0, .bool false, .int .u16 0, .int .u16 0, .bool false, .bool false], []⟩ 8 (by kernel_rfl) (by kernel_rfl) (by kernel_rfl) (by kernel_rfl)) ?_
  intro W base args ds gs before hval0 hW hcnd _
  have hval : ∀ (j : Nat) t v, Yba.f4.params[j]? = some t → args[j]? = some v → Value.okWide Yba.prog W .any base t v := hval0
  have hW' := hW
  obtain ⟨p, q, hA0, hV, rfl, hfz, hnd⟩ := hW
  have hA : DataW.TrodAll enc Yba.prog W 0 (fun _ => true) true Yba.f4.params.toList args.toList ds p := hA0
  rw [Yba.params4] at hA hval
  obtain ⟨v0, vs0, d0, ds0, p0, q0, hargs, rfl, rfl, h0, r0⟩ := trodAll_cons hA
  obtain ⟨v1, vs1, d1, ds1, p1, q1, e1, rfl, rfl, h1, r1⟩ := trodAll_cons r0
  obtain ⟨v2, vs2, d2, ds2, p2, q2, e2, rfl, rfl, h2, r2⟩ := trodAll_cons r1
  obtain ⟨v3, vs3, d3, ds3, p3, q3, e3, rfl, rfl, h3, r3⟩ := trodAll_cons r2
  obtain ⟨v4, vs4, d4, ds4, p4, q4, e4, rfl, rfl, h4, r4⟩ := trodAll_cons r3
  obtain ⟨v5, vs5, d5, ds5, p5, q5, e5, rfl, rfl, h5, r5⟩ := trodAll_cons r4
  obtain ⟨v6, vs6, d6, ds6, p6, q6, e6, rfl, rfl, h6, r6⟩ := trodAll_cons r5
  obtain ⟨v7, vs7, d7, ds7, p7, q7, e7, rfl, rfl, h7, r7⟩ := trodAll_cons r6
  obtain ⟨v8, vs8, d8, ds8, p8, q8, e8, rfl, rfl, h8, r8⟩ := trodAll_cons r7
  obtain ⟨v9, vs9, d9, ds9, p9, q9, e9, rfl, rfl, h9, r9⟩ := trodAll_cons r8
  obtain ⟨v10, vs10, d10, ds10, p10, q10, e10, rfl, rfl, h10, r10⟩ := trodAll_cons r9
  obtain ⟨v11, vs11, d11, ds11, p11, q11, e11, rfl, rfl, h11, r11⟩ := trodAll_cons r10
  obtain ⟨e12, rfl, rfl⟩ := trodAll_nil r11
  subst e12 e11 e10 e9 e8 e7 e6 e5 e4 e3 e2 e1
  obtain rfl : args = #[v0, v1, v2, v3, v4, v5, v6, v7, v8, v9, v10, v11] := by cases args; simp_all
  obtain ⟨rfl, rfl⟩ := trodVars_none hV
  obtain ⟨n, rfl, b0⟩ := arg_u8 h0 (okWide_int Yba.underlying5 (hval 0 5 v0 rfl rfl))
  obtain ⟨tS, rfl, b1⟩ := arg_u8 h1 (okWide_int Yba.underlying5 (hval 1 5 v1 rfl rfl))
  obtain ⟨lS, rfl, b2⟩ := arg_u8 h2 (okWide_int Yba.underlying5 (hval 2 5 v2 rfl rfl))
  obtain ⟨a0, len0, cap0, rfl⟩ := okWide_slice Yba.underlying51 (hval 3 51 v3 rfl rfl)
  obtain ⟨lvl, rfl⟩ := okWide_bool Yba.underlying4 (hval 4 4 v4 rfl rfl)
  obtain ⟨lv, rfl, b5⟩ := arg_u8 h5 (okWide_int Yba.underlying5 (hval 5 5 v5 rfl rfl))
  obtain ⟨iv, rfl, b6⟩ := arg_u8 h6 (okWide_int Yba.underlying5 (hval 6 5 v6 rfl rfl))
  obtain ⟨wm, rfl⟩ := okWide_bool Yba.underlying4 (hval 7 4 v7 rfl rfl)
  obtain ⟨sT, rfl, b8⟩ := arg_u16 h8 (okWide_int Yba.underlying52 (hval 8 52 v8 rfl rfl))
  obtain ⟨sU, rfl, b9⟩ := arg_u16 h9 (okWide_int Yba.underlying52 (hval 9 52 v9 rfl rfl))
  obtain ⟨pre, rfl⟩ := okWide_bool Yba.underlying4 (hval 10 4 v10 rfl rfl)
  obtain ⟨fr, rfl⟩ := okWide_bool Yba.underlying4 (hval 11 4 v11 rfl rfl)
  have lt0 : ∀ x ∈ p0, x.block < W.heap.size := by obtain ⟨m, hm⟩ := h0; exact DataW.trod_lt m _ _ _ hm
  have lt1 : ∀ x ∈ p1, x.block < W.heap.size := by obtain ⟨m, hm⟩ := h1; exact DataW.trod_lt m _ _ _ hm
  have lt2 : ∀ x ∈ p2, x.block < W.heap.size := by obtain ⟨m, hm⟩ := h2; exact DataW.trod_lt m _ _ _ hm
  have lt3 : ∀ x ∈ p3, x.block < W.heap.size := by obtain ⟨m, hm⟩ := h3; exact DataW.trod_lt m _ _ _ hm
  have lt4 : ∀ x ∈ p4, x.block < W.heap.size := by obtain ⟨m, hm⟩ := h4; exact DataW.trod_lt m _ _ _ hm
  have lt5 : ∀ x ∈ p5, x.block < W.heap.size := by obtain ⟨m, hm⟩ := h5; exact DataW.trod_lt m _ _ _ hm
  have lt6 : ∀ x ∈ p6, x.block < W.heap.size := by obtain ⟨m, hm⟩ := h6; exact DataW.trod_lt m _ _ _ hm
  have lt7 : ∀ x ∈ p7, x.block < W.heap.size := by obtain ⟨m, hm⟩ := h7; exact DataW.trod_lt m _ _ _ hm
  have lt8 : ∀ x ∈ p8, x.block < W.heap.size := by obtain ⟨m, hm⟩ := h8; exact DataW.trod_lt m _ _ _ hm
  have lt9 : ∀ x ∈ p9, x.block < W.heap.size := by obtain ⟨m, hm⟩ := h9; exact DataW.trod_lt m _ _ _ hm
  have lt10 : ∀ x ∈ p10, x.block < W.heap.size := by obtain ⟨m, hm⟩ := h10; exact DataW.trod_lt m _ _ _ hm
  have lt11 : ∀ x ∈ p11, x.block < W.heap.size := by obtain ⟨m, hm⟩ := h11; exact DataW.trod_lt m _ _ _ hm
  obtain ⟨b, off, LL, VV, hp, hst⟩ := open_hs h3
  clear hA0 hval0
  have hcall : Calls Yba.prog 4 #[.int .u8 n, .int .u8 tS, .int .u8 lS, .slice a0 len0 cap0, .bool lvl, .int .u8 lv, .int .u8 iv, .bool wm, .int .u16 sT, .int .u16 sU, .bool pre, .bool fr] W fun e w' => e = .returned (.bool true) ∧ Only [] W w' := by
    by_cases hn : len0 ≤ 1024
    · exact law4_true n tS lS b0 b1 b2 a0 b off len0 cap0 hp LL VV lvl lv iv b5 b6 wm sT sU b8 b9 pre fr hn W hst
    · exact law4_long _ _ _ _ _ _ _ _ _ _ fr a0 len0 cap0 W (by omega)
  refine hcall.mono fun e W' ⟨he, ho⟩ => ?_
  subst he
  have bel : Below W.heap.size W W' := ho.below (Nat.le_refl _) (by simp)
  exact ⟨_, rfl, _, _, _, [], _, [], hW', trodAll_mk1 (shut_bool Yba.underlying4 _), (trodAll_cons_mk (Below.trod laidOut (by kernel_rfl) (of_decide_eq_true (by kernel_rfl)) h0 bel lt0) (trodAll_cons_mk (Below.trod laidOut (by kernel_rfl) (of_decide_eq_true (by kernel_rfl)) h1 bel lt1) (trodAll_cons_mk (Below.trod laidOut (by kernel_rfl) (of_decide_eq_true (by kernel_rfl)) h2 bel lt2) (trodAll_cons_mk (Below.trod laidOut (by kernel_rfl) (of_decide_eq_true (by kernel_rfl)) h3 bel lt3) (trodAll_cons_mk (Below.trod laidOut (by kernel_rfl) (of_decide_eq_true (by kernel_rfl)) h4 bel lt4) (trodAll_cons_mk (Below.trod laidOut (by kernel_rfl) (of_decide_eq_true (by kernel_rfl)) h5 bel lt5) (trodAll_cons_mk (Below.trod laidOut (by kernel_rfl) (of_decide_eq_true (by kernel_rfl)) h6 bel lt6) (trodAll_cons_mk (Below.trod laidOut (by kernel_rfl) (of_decide_eq_true (by kernel_rfl)) h7 bel lt7) (trodAll_cons_mk (Below.trod laidOut (by kernel_rfl) (of_decide_eq_true (by kernel_rfl)) h8 bel lt8) (trodAll_cons_mk (Below.trod laidOut (by kernel_rfl) (of_decide_eq_true (by kernel_rfl)) h9 bel lt9) (trodAll_cons_mk (Below.trod laidOut (by kernel_rfl) (of_decide_eq_true (by kernel_rfl)) h10 bel lt10) (trodAll_cons_mk (Below.trod laidOut (by kernel_rfl) (of_decide_eq_true (by kernel_rfl)) h11 bel lt11) trodAll_mk0)))))))))))), rfl, bel.frame _, fun h => by cases h⟩

end Cwait

theorem cwaitProved : Rows.LawS0429CWaitSaid :=
  OpenClaim.holds_of_wide 4 Yba.f4 rfl rfl rfl rfl rfl rfl rfl ⟨rfl, rfl, rfl, rfl, rfl⟩ rfl rfl rfl rfl rfl (by kernel_rfl) Yba.func4 (by kernel_rfl)
    (of_decide_eq_true (by kernel_rfl)) (by unfold Func.isWrapper; first | (rw [if_pos (by decide +kernel)]; kernel_rfl) | (rw [if_neg (by decide +kernel)]; exact ⟨rfl, rfl⟩))
    (fun os started H enc _ => Cwait.lifted os started H enc)

end Go.Proofs.Ybulkhwa

import Derived.Test.YbulkhwaInts
namespace Go.Proofs.Ybulkhwa
open Go.RowKit Go.Pool

theorem wpList_append_run {P : Program} {ops : Array Oper} {rest : List Oper} {o : Oper} {a : Act} {w : World} {Q : Exit → Act → World → Prop} (hgd : o.guard = none) (s x : Operand) (t : TypeId)
    (ho : o.op = .call { callee := .builtin .append, args := #[s, x], argTypes := #[t, t] }) (va vx v' : Value) (w' : World) (hs : a.eval s = va) (hx : a.eval x = vx) (hr : (Builtin.append_ #[t, t] o.type #[va, vx]).run P w = .ok v' w')
    (h : wpList P ops Q rest (a.put o.dst v') w') : wpList P ops Q (o :: rest) a w :=
  wpList_plain hgd fun _ hK => by
    unfold Oper.wp
    rw [run_append_op ho hs hx hr]
    exact hK _ _ h

/-- the closure's boxes -/
structure Cp where
  c : Nat
  g : Nat
  h : Nat
  f : Nat
  s : Nat

def Cp.vals (B : Cp) : Array Value := #[.pointer (some ⟨B.c, 0, none⟩), .pointer (some ⟨B.g, 0, none⟩), .pointer (some ⟨B.h, 0, none⟩), .pointer (some ⟨B.f, 0, none⟩), .pointer (some ⟨B.s, 0, none⟩)]

structure Cp.At (B : Cp) (w : World) (fr : Bool) (sv : Value) : Prop where
  nd : [B.c, B.g, B.h, B.f, B.s].Nodup
  c : Row w B.c 1 (fun _ => .int .i64 0)
  g : ∃ g, Row w B.g 5 g
  h : ∃ v, Row w B.h 1 (fun _ => v)
  f : w.cell? ⟨B.f, 0, none⟩ = some (.bool fr)
  s : w.cell? ⟨B.s, 0, none⟩ = some sv

def waitC (tx : Int) (it : ByteArray) (v : Value) : List Value := [.int .i64 tx, .int .u8 114, .int .i64 tx, .string it, v]

/-- what the closure leaves -/
structure Reported (B : Cp) (w w' : World) (tx : Int) (it : ByteArray) (v : Value) (zs : List Int) : Prop where
  c : w'.cell? ⟨B.c, 0, none⟩ = some (.int .i64 1)
  g : ∀ j, j < 5 → w'.cell? ⟨B.g, j, none⟩ = (waitC tx it v)[j]?
  h : ∃ v', w'.cell? ⟨B.h, 0, none⟩ = some v' ∧ Ints w' v' zs ∧ ∀ k, v'.ownBlock = some k → w.heap.size ≤ k
  only : Only [B.c, B.g, B.h] w w'

set_option maxRecDepth 100000 in
set_option maxHeartbeats 2000000 in
theorem report_any (B : Cp) (w : World) (fr : Bool) (sp : Value) (tx : Int) (it : ByteArray) (hp : Option Addr) (hn hc : Nat) (zs : List Int) (hB : B.At w fr sp) (hz : Ints w (.slice hp hn hc) zs) (hQ : ∀ k, (Value.slice hp hn hc).ownBlock = some k → k ∉ [B.c, B.g, B.h]) (hl : zs.length ≤ 1024) :
    Calls Yba.prog 10 #[.agg #[.int .i64 tx, .int .u8 114, .int .i64 tx, .string it, .slice hp hn hc], .pointer (some ⟨B.c, 0, none⟩), .pointer (some ⟨B.g, 0, none⟩), .pointer (some ⟨B.h, 0, none⟩), .pointer (some ⟨B.f, 0, none⟩), .pointer (some ⟨B.s, 0, none⟩)] w fun e w' => e = .returned (if fr then sp else .nilIface) ∧ Reported B w w' tx it (.slice hp hn hc) zs := by
  have HB : Hid (B.At w fr sp) := hB
  have HZ : Hid (Ints w (.slice hp hn hc) zs) := hz
  clear hB hz
  go_enter Yba.func10, Yba.ntmps10
  go_upto_region 1 with fail
  have hnd := HB.out.nd
  simp only [List.nodup_cons, List.mem_cons, List.not_mem_nil, not_or, or_false] at hnd
  obtain ⟨⟨n1, n2, n3, n4⟩, ⟨n5, n6, n7⟩, ⟨n8, n9⟩, n10, _⟩ := hnd
  obtain ⟨gg, hg⟩ := HB.out.g
  obtain ⟨vh, hh⟩ := HB.out.h
  have lc : B.c < w.heap.size := HB.out.c.lt (by decide)
  have lg : B.g < w.heap.size := hg.lt (by decide)
  have lh : B.h < w.heap.size := hh.lt (by decide)
  have lf : B.f < w.heap.size := World.block_lt_of_cell? _ _ HB.out.f
  have ls : B.s < w.heap.size := World.block_lt_of_cell? _ _ HB.out.s
  obtain ⟨w1, e1⟩ : ∃ x, x = w.alloc (.cells #[.int .i64 tx, .int .u8 114, .int .i64 tx, .string it, .slice hp hn hc] 71) := ⟨_, rfl⟩
  have o1 : Only [] w w1 := by rw [e1]; exact (Only.refl _ w).alloc _
  have rx : Row w1 w.heap.size 5 (fun j => ((waitC tx it (.slice hp hn hc))[j]?).getD undef) := by
    rw [e1]
    refine Row.new _ _ _ _ _ fun j hj => ?_
    have : j = 0 ∨ j = 1 ∨ j = 2 ∨ j = 3 ∨ j = 4 := by omega
    rcases this with rfl | rfl | rfl | rfl | rfl <;> rfl
  have s1 : w1.heap.size = w.heap.size + 1 := by rw [e1]; simp
  rw [← e1]
  obtain ⟨bx, hbx⟩ : ∃ x, x = w.heap.size := ⟨_, rfl⟩
  rw [← hbx] at rx ⊢
  have rc := HB.out.c.only o1 lc (by simp)
  have rg := hg.only o1 lg (by simp)
  have rh := hh.only o1 lh (by simp)
  have c0 := rc.cell 0 (by decide)
  have f0 := rc.frozen 0
  have NE : Hid (bx ≠ B.c ∧ bx ≠ B.g ∧ bx ≠ B.h ∧ B.c ≠ B.g ∧ B.c ≠ B.h ∧ B.g ≠ B.h ∧ B.f ≠ B.c ∧ B.f ≠ B.g ∧ B.f ≠ B.h ∧ B.s ≠ B.c ∧ B.s ≠ B.g ∧ B.s ≠ B.h) := ⟨by omega, by omega, by omega, n1, n2, n5, Ne.symm n3, Ne.symm n6, Ne.symm n8, Ne.symm n4, Ne.symm n7, Ne.symm n9⟩
  have LT : Hid (B.c < w.heap.size ∧ B.g < w.heap.size ∧ B.h < w.heap.size ∧ B.f < w.heap.size ∧ B.s < w.heap.size) := ⟨lc, lg, lh, lf, ls⟩
  have HX : Hid (bx = w.heap.size ∧ w1.heap.size = w.heap.size + 1 ∧ Only [] w w1) := ⟨hbx, s1, o1⟩
  have HRc : Hid (Row w1 B.c 1 fun _ => .int .i64 0) := rc
  have HRg : Hid (Row w1 B.g 5 gg) := rg
  have HRh : Hid (Row w1 B.h 1 fun _ => vh) := rh
  have HRx : Hid (Row w1 bx 5 (fun j => ((waitC tx it (.slice hp hn hc))[j]?).getD undef)) := rx
  clear e1 hbx s1 o1 rc rg rh rx hg hh n1 n2 n3 n4 n5 n6 n7 n8 n9 n10 lc lg lh lf ls
  go_upto_region 2 with fail
  obtain ⟨w2, e2⟩ : ∃ x, x = w1.setCell ⟨B.c, 0, none⟩ (.int .i64 1) := ⟨_, rfl⟩
  have o2 : Only [B.c] w w2 := by rw [e2]; exact (HX.out.2.2.mono (by simp)).setCell (by simp) _
  have s2 : w2.heap.size = w.heap.size + 1 := by rw [e2, World.size_setCell]; exact HX.out.2.1
  have rc : Row w2 B.c 1 (fun _ => .int .i64 1) := by rw [e2]; exact (HRc.out.set 0 (by decide) _).congr fun j hj => by simp; omega
  have rx : Row w2 bx 5 (fun j => ((waitC tx it (.slice hp hn hc))[j]?).getD undef) := by rw [e2]; exact HRx.out.other (Ne.symm NE.out.1) _
  have rg : Row w2 B.g 5 gg := by rw [e2]; exact HRg.out.other NE.out.2.2.2.1 _
  have rh : Row w2 B.h 1 (fun _ => vh) := by rw [e2]; exact HRh.out.other NE.out.2.2.2.2.1 _
  have g0 := rg.cell 0 (by decide)
  have g1 := rg.cell 1 (by decide)
  have g2 := rg.cell 2 (by decide)
  have g3 := rg.cell 3 (by decide)
  have g4 := rg.cell 4 (by decide)
  have k0 := rg.frozen 0
  have k1 := rg.frozen 1
  have k2 := rg.frozen 2
  have k3 := rg.frozen 3
  have k4 := rg.frozen 4
  have x0 : w2.cell? ⟨bx, 0, none⟩ = some (.int .i64 tx) := rx.cell 0 (by decide)
  have x1 : w2.cell? ⟨bx, 1, none⟩ = some (.int .u8 114) := rx.cell 1 (by decide)
  have x2 : w2.cell? ⟨bx, 2, none⟩ = some (.int .i64 tx) := rx.cell 2 (by decide)
  have x3 : w2.cell? ⟨bx, 3, none⟩ = some (.string it) := rx.cell 3 (by decide)
  have x4 : w2.cell? ⟨bx, 4, none⟩ = some (.slice hp hn hc) := rx.cell 4 (by decide)
  rw [← e2]
  clear e2 c0 f0 HRc HRg HRh HRx
  have HRc : Hid (Row w2 B.c 1 fun _ => .int .i64 1) := rc
  have HRg : Hid (Row w2 B.g 5 gg) := rg
  have HRh : Hid (Row w2 B.h 1 fun _ => vh) := rh
  have HRx : Hid (Row w2 bx 5 (fun j => ((waitC tx it (.slice hp hn hc))[j]?).getD undef)) := rx
  have HY : Hid (Only [B.c] w w2 ∧ w2.heap.size = w.heap.size + 1) := ⟨o2, s2⟩
  clear rc rg rh rx o2 s2
  go_upto_region 3 with fail
  obtain ⟨w3, e3⟩ : ∃ x, x = (((((w2.setCell ⟨B.g, 0, none⟩ (.int .i64 tx)).setCell ⟨B.g, 1, none⟩ (.int .u8 114)).setCell ⟨B.g, 2, none⟩ (.int .i64 tx)).setCell ⟨B.g, 3, none⟩ (.string it)).setCell ⟨B.g, 4, none⟩ (.slice hp hn hc)) := ⟨_, rfl⟩
  have o3 : Only [B.c, B.g, B.h] w w3 := by rw [e3]; exact ((((((HY.out.1.mono (by simp)).setCell (by simp) _).setCell (by simp) _).setCell (by simp) _).setCell (by simp) _).setCell (by simp) _)
  have s3 : w3.heap.size = w.heap.size + 1 := by rw [e3]; simp only [World.size_setCell]; exact HY.out.2
  have rc : Row w3 B.c 1 (fun _ => .int .i64 1) := by
    rw [e3]
    exact ((((HRc.out.other (Ne.symm NE.out.2.2.2.1) _).other (Ne.symm NE.out.2.2.2.1) _).other (Ne.symm NE.out.2.2.2.1) _).other (Ne.symm NE.out.2.2.2.1) _).other (Ne.symm NE.out.2.2.2.1) _
  have rh : Row w3 B.h 1 (fun _ => vh) := by
    rw [e3]
    exact ((((HRh.out.other NE.out.2.2.2.2.2.1 _).other NE.out.2.2.2.2.2.1 _).other NE.out.2.2.2.2.2.1 _).other NE.out.2.2.2.2.2.1 _).other NE.out.2.2.2.2.2.1 _
  have x5 : w3.cell? ⟨bx, 4, none⟩ = some (.slice hp hn hc) := by
    have : Row w3 bx 5 (fun j => ((waitC tx it (.slice hp hn hc))[j]?).getD undef) := by
      rw [e3]
      exact ((((HRx.out.other (Ne.symm NE.out.2.1) _).other (Ne.symm NE.out.2.1) _).other (Ne.symm NE.out.2.1) _).other (Ne.symm NE.out.2.1) _).other (Ne.symm NE.out.2.1) _
    exact this.cell 4 (by decide)
  have rg : Row w3 B.g 5 (fun j => ((waitC tx it (.slice hp hn hc))[j]?).getD undef) := by
    rw [e3]
    refine (((((HRg.out.set 0 (by decide) _).set 1 (by decide) _).set 2 (by decide) _).set 3 (by decide) _).set 4 (by decide) _).congr fun j hj => ?_
    have : j = 0 ∨ j = 1 ∨ j = 2 ∨ j = 3 ∨ j = 4 := by omega
    rcases this with rfl | rfl | rfl | rfl | rfl <;> rfl
  rw [← e3]
  clear e3 g0 g1 g2 g3 g4 k0 k1 k2 k3 k4 x0 x1 x2 x3 x4 HRc HRg HRh HRx
  have hz3 : Ints w3 (.slice hp hn hc) zs := HZ.out.only o3 hQ
  obtain ⟨p, n, c, w4, hr, hi4, hg4, hb4⟩ := append_ints w3 34 (.slice hp hn hc) zs hz3 hl
  have HR : Hid ((Builtin.append_ #[34, 34] 34 #[.slice none 0 0, .slice hp hn hc]).run Yba.prog w3 = .ok (.slice p n c) w4) := hr
  have o4 : Only [] w3 w4 := ⟨hg4.os, hg4.tape, hg4.output, hg4.size, fun k hk _ => hg4.block k hk (by simp)⟩
  have rh4 := rh.only o4 (by rw [s3]; have := LT.out; omega) (by simp)
  have h0 := rh4.cell 0 (by decide)
  have f0 := rh4.frozen 0
  obtain ⟨w5, e5⟩ : ∃ x, x = w4.setCell ⟨B.h, 0, none⟩ (.slice p n c) := ⟨_, rfl⟩
  have ff : w5.cell? ⟨B.f, 0, none⟩ = some (.bool fr) := by
    rw [e5, World.cell?_setCell_other _ _ _ _ (by intro hx; injection hx; have := NE.out; omega), o4.cell (p := ⟨B.f, 0, none⟩) (by rw [s3]; have := LT.out; show B.f < _; omega) (by simp), o3.cell (p := ⟨B.f, 0, none⟩) LT.out.2.2.2.1 (by have := NE.out; simp; omega)]
    exact HB.out.f
  have fs : w5.cell? ⟨B.s, 0, none⟩ = some sp := by
    rw [e5, World.cell?_setCell_other _ _ _ _ (by intro hx; injection hx; have := NE.out; omega), o4.cell (p := ⟨B.s, 0, none⟩) (by rw [s3]; have := LT.out; show B.s < _; omega) (by simp), o3.cell (p := ⟨B.s, 0, none⟩) LT.out.2.2.2.2 (by have := NE.out; simp; omega)]
    exact HB.out.s
  have HW : Hid (Reported B w w5 tx it (.slice hp hn hc) zs) := by
    refine ⟨?_, fun j hj => ?_, ⟨.slice p n c, ?_, ?_, fun k hk => by have := hb4 k hk; omega⟩, ?_⟩
    · rw [e5]
      exact ((rc.only o4 (by rw [s3]; have := LT.out; omega) (by simp)).other (Ne.symm NE.out.2.2.2.2.1) _).cell 0 (by decide)
    · rw [e5, ((rg.only o4 (by rw [s3]; have := LT.out; omega) (by simp)).other (Ne.symm NE.out.2.2.2.2.2.1) _).cell j hj]
      have : j = 0 ∨ j = 1 ∨ j = 2 ∨ j = 3 ∨ j = 4 := by omega
      rcases this with rfl | rfl | rfl | rfl | rfl <;> rfl
    · rw [e5]; exact World.cell?_setCell_same _ _ _ h0
    · rw [e5]
      refine hi4.only ((Only.refl [B.h] w4).setCell (by simp) _) (fun k hk => ?_)
      have h1 := hb4 k hk
      have h2 := LT.out.2.2.1
      simp
      omega
    · rw [e5]; exact (o3.trans (o4.mono (by simp))).setCell (by simp) _
  have E5 : Hid (w5 = w4.setCell ⟨B.h, 0, none⟩ (.slice p n c)) := e5
  have FF : Hid (w5.cell? ⟨B.f, 0, none⟩ = some (.bool fr)) := ff
  have FS : Hid (w5.cell? ⟨B.s, 0, none⟩ = some sp) := fs
  clear hz3 hi4 hg4 hb4 hr o3 o4 rc rh rg rh4 s3 e5 ff fs
  go_upto_region 4 with (at_builtin; refine wpList_append_run rfl _ _ 34 rfl _ _ (.slice p n c) w4 rfl rfl HR.out ?_)
  rw [← E5.out]
  have ff := FF.out
  have fs := FS.out
  clear E5 FF FS h0 f0 HR x5
  cases fr
  · go_wp2
    go_ret
    exact ⟨rfl, HW.out⟩
  · go_wp2
    go_ret
    exact ⟨rfl, HW.out⟩

end Go.Proofs.Ybulkhwa

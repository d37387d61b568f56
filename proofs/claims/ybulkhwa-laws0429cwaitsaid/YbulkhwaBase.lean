import Derived.Test.YbulkhwaRows
import Derived.WalkKit
import Derived.WalkSpells
import Derived.WalkLawsBesides
import Derived.Deep.QuietTactic
import Derived.BigQuiet
import Derived.BigRegion
import Derived.Deep.DeepCutAuto
namespace Go.Proofs.Ybulkhwa
open Go.RowKit

/-- Block b holds the n cells g, none of it frozen. -/
structure Row (w : World) (b n : Nat) (g : Nat → Value) : Prop where
  cell : ∀ j, j < n → w.cell? ⟨b, j, none⟩ = some (g j)
  frozen : ∀ j, w.frozen? ⟨b, j, none⟩ = false

/-- w' is w with new blocks, and with writes to the blocks of S alone. -/
structure Only (S : List Nat) (w w' : World) : Prop where
  os : w'.os = w.os
  tape : w'.tape = w.tape
  output : w'.output = w.output
  size : w.heap.size ≤ w'.heap.size
  block : ∀ k, k < w.heap.size → k ∉ S → w'.heap[k]? = w.heap[k]?

theorem Only.refl (S : List Nat) (w : World) : Only S w w := ⟨rfl, rfl, rfl, Nat.le_refl _, fun _ _ _ => rfl⟩
theorem Only.trans {S : List Nat} {a b c : World} (h : Only S a b) (k : Only S b c) : Only S a c :=
  ⟨k.os.trans h.os, k.tape.trans h.tape, k.output.trans h.output, Nat.le_trans h.size k.size, fun i hi hs => (k.block i (Nat.lt_of_lt_of_le hi h.size) hs).trans (h.block i hi hs)⟩
theorem Only.mono {S T : List Nat} {a b : World} (h : Only S a b) (hs : ∀ x ∈ S, x ∈ T) : Only T a b :=
  ⟨h.os, h.tape, h.output, h.size, fun k hk hn => h.block k hk (fun hm => hn (hs k hm))⟩
theorem Only.drew {S : List Nat} {a b : World} (h : Only S a b) : Only S a b.drew := ⟨h.os, h.tape, h.output, h.size, h.block⟩
theorem Only.drewN {S : List Nat} {a b : World} (h : Only S a b) (n : Nat) : Only S a (b.drewN n) := ⟨h.os, h.tape, h.output, h.size, h.block⟩
theorem Only.alloc {S : List Nat} {a b : World} (h : Only S a b) (o : Obj) : Only S a (b.alloc o) :=
  h.trans ⟨rfl, rfl, rfl, by simp, fun k hk _ => Below.heap_alloc _ _ _ hk⟩
theorem Only.setCell {S : List Nat} {a b : World} (h : Only S a b) {p : Addr} (hp : p.block ∈ S) (v : Value) : Only S a (b.setCell p v) :=
  h.trans ⟨rfl, rfl, rfl, by simp [World.setCell], fun k _ hn => Below.heap_setCell _ _ _ _ (fun e => hn (e ▸ hp))⟩
/-- a store into a block that is new since a -/
theorem Only.setNew {S : List Nat} {a b : World} (h : Only S a b) {p : Addr} (hp : a.heap.size ≤ p.block) (v : Value) : Only S a (b.setCell p v) :=
  ⟨h.os, h.tape, h.output, by rw [World.size_setCell]; exact h.size, fun k hk hn => (Below.heap_setCell _ _ _ _ (by omega)).trans (h.block k hk hn)⟩
theorem Only.below {S : List Nat} {a b : World} (h : Only S a b) {B : Nat} (hB : B ≤ a.heap.size) (hs : ∀ x ∈ S, B ≤ x) : Below B a b :=
  ⟨h.os, h.tape, h.output, h.size, fun k hk => h.block k (Nat.lt_of_lt_of_le hk hB) (fun hm => by have := hs k hm; omega)⟩
theorem Only.ofBelow {B : Nat} {a b : World} (h : Below B a b) (S : List Nat) (hS : ∀ k, k < a.heap.size → k ∉ S → k < B) : Only S a b :=
  ⟨h.os, h.tape, h.output, h.size, fun k hk hn => h.block k (hS k hk hn)⟩

theorem Only.cell {S : List Nat} {a b : World} (h : Only S a b) {p : Addr} (hp : p.block < a.heap.size) (hn : p.block ∉ S) : b.cell? p = a.cell? p := World.cell?_of_block (h.block _ hp hn)
theorem Only.frozen {S : List Nat} {a b : World} (h : Only S a b) {p : Addr} (hp : p.block < a.heap.size) (hn : p.block ∉ S) : b.frozen? p = a.frozen? p := World.frozen?_of_block (h.block _ hp hn)

theorem Row.lt {w : World} {b n : Nat} {g : Nat → Value} (h : Row w b n g) (hn : 0 < n) : b < w.heap.size := World.block_lt_of_cell? _ _ (h.cell 0 hn)
theorem Row.only {S : List Nat} {w w' : World} {b n : Nat} {g : Nat → Value} (h : Row w b n g) (ho : Only S w w') (hb : b < w.heap.size) (hn : b ∉ S) : Row w' b n g :=
  ⟨fun j hj => (ho.cell (p := ⟨b, j, none⟩) hb hn).trans (h.cell j hj), fun j => (ho.frozen (p := ⟨b, j, none⟩) hb hn).trans (h.frozen j)⟩
theorem Row.drew {w : World} {b n : Nat} {g : Nat → Value} (h : Row w b n g) : Row w.drew b n g := ⟨h.cell, h.frozen⟩
theorem Row.drewN {w : World} {b n : Nat} {g : Nat → Value} (h : Row w b n g) (q : Nat) : Row (w.drewN q) b n g := ⟨h.cell, h.frozen⟩
theorem Row.congr {w : World} {b n : Nat} {g g' : Nat → Value} (h : Row w b n g) (e : ∀ j, j < n → g j = g' j) : Row w b n g' := ⟨fun j hj => (e j hj) ▸ h.cell j hj, h.frozen⟩
/-- a store into the row -/
theorem Row.set {w : World} {b n : Nat} {g : Nat → Value} (h : Row w b n g) (i : Nat) (hi : i < n) (v : Value) : Row (w.setCell ⟨b, i, none⟩ v) b n (fun j => if j = i then v else g j) := by
  refine ⟨fun j hj => ?_, fun j => by rw [World.frozen?_setCell]; exact h.frozen j⟩
  by_cases e : j = i
  · subst e
    rw [World.cell?_setCell_same _ _ _ (h.cell j hj)]
    simp
  · rw [World.cell?_setCell_other _ _ _ _ (by intro hx; injection hx; omega), h.cell j hj]
    simp [e]
/-- a store elsewhere -/
theorem Row.other {w : World} {b n : Nat} {g : Nat → Value} (h : Row w b n g) {p : Addr} (hp : p.block ≠ b) (v : Value) : Row (w.setCell p v) b n g := by
  refine ⟨fun j hj => ?_, fun j => by rw [World.frozen?_setCell]; exact h.frozen j⟩
  rw [World.cell?_setCell_other _ _ _ _ (by intro hx; subst hx; exact hp rfl), h.cell j hj]
theorem Row.alloc {w : World} {b n : Nat} {g : Nat → Value} (h : Row w b n g) (hb : b < w.heap.size) (o : Obj) : Row (w.alloc o) b n g :=
  ⟨fun j hj => by rw [World.cell?_alloc_lt _ _ _ hb]; exact h.cell j hj, fun j => by rw [World.frozen?_alloc_old _ _ _ (by show b ≠ w.heap.size; omega)]; exact h.frozen j⟩
/-- a new block -/
theorem Row.new (w : World) (C : Array Value) (t : TypeId) (n : Nat) (g : Nat → Value) (h : ∀ j, j < n → C[j]? = some (g j)) : Row (w.alloc (.cells C t)) w.heap.size n g :=
  ⟨fun j hj => by rw [World.cell?_alloc_new]; exact h j hj, fun j => World.frozen?_alloc_new _ _ _ _⟩
theorem Row.ofHeap {w : World} {b n : Nat} {C : Array Value} {t : TypeId} {g : Nat → Value} (hb : w.heap[b]? = some (.cells C t (0, 0))) (h : ∀ j, j < n → C[j]? = some (g j)) : Row w b n g := by
  refine ⟨fun j hj => ?_, fun j => ?_⟩
  · simp [World.cell?, hb, h j hj]
  · simp [World.frozen?, hb]

/-- 'zzs0429akind' -/
def kindF (x : Nat) : Nat := if x % 7 = 0 then 114 else if x % 7 = 1 then 119 else if x % 7 = 2 then 117 else if x % 7 = 3 then 108 else if x % 7 = 4 then 115 else if x % 7 = 5 then 120 else 99

theorem ret_u8 {a b : Int} (h : a = b) : Ending.returned (.int .u8 a) = .returned (.int .u8 b) := by rw [h]
theorem ret_b {a b : Bool} (h : a = b) : Ending.returned (.bool a) = .returned (.bool b) := by rw [h]

set_option maxHeartbeats 400000 in
theorem kind_any (x : Nat) (w : World) (hx : x < 256) :
    Calls Yba.prog 5 #[.int .u8 x] w fun e w' => e = .returned (.int .u8 (kindF x)) ∧ w' = w := by
  obtain ⟨r, hr⟩ : ∃ r, x % 7 = r := ⟨_, rfl⟩
  have hr7 : r < 7 := by omega
  have e : (x : Int) % 7 = (r : Int) := by omega
  have HR : Hid (x % 7 = r) := hr
  clear hr
  have : r = 0 ∨ r = 1 ∨ r = 2 ∨ r = 3 ∨ r = 4 ∨ r = 5 ∨ r = 6 := by omega
  rcases this with rfl | rfl | rfl | rfl | rfl | rfl | rfl
  all_goals
    go_enter Yba.func5, Yba.ntmps5
    go_wp2
    go_ret
    exact ⟨ret_u8 (by simp [kindF, HR.out]), rfl⟩

end Go.Proofs.Ybulkhwa

import Derived.Test.YbulkcftmRows
import Derived.WalkKit
import Derived.ProofKit
import Derived.BigQuiet
import Derived.BigRegion
import Derived.Deep.QuietTactic
import Derived.Laws.Pointers
import Derived.Below
namespace Go.Proofs.Ybulkcftm
open Go.ChangeShapes Go.WideShapes Go.ChangeAt Go.RowKit
theorem heap_alloc (w : World) (o : Obj) (k : Nat) : (w.alloc o).heap[k]? = if k = w.heap.size then some o else w.heap[k]? := by
  show (w.heap.push o)[k]? = _
  rw [Array.getElem?_push]
theorem below_alloc (w : World) (o : Obj) : Below w.heap.size w (w.alloc o) := (Below.refl _ _).alloc (Nat.le_refl _) o
theorem lt_of_some {w : World} {r : Nat} {o : Obj} (h : w.heap[r]? = some o) : r < w.heap.size := (Array.getElem?_eq_some_iff.1 h).1
theorem heap_setCell_same {w : World} {S k : Nat} {c : Array Value} {t : TypeId} {f : Nat × Nat} {v : Value} (h : w.heap[S]? = some (.cells c t f)) : (w.setCell ⟨S, k, none⟩ v).heap[S]? = some (.cells (c.setIfInBounds k v) t f) := by
  simp [World.setCell, Array.getElem?_modify, h]
theorem heap_setCell_other {w : World} {S : Nat} {a : Addr} {v : Value} (h : a.block ≠ S) : (w.setCell a v).heap[S]? = w.heap[S]? := by
  simp [World.setCell, Array.getElem?_modify, h]
theorem cell_of {w : World} {b j : Nat} {cs : Array Value} {t : TypeId} {v : Value} (h : w.heap[b]? = some (.cells cs t (0, 0))) (hj : cs[j]? = some v) : w.cell? ⟨b, j, none⟩ = some v := by
  simp [World.cell?, h, hj]
theorem free_of {w : World} {b j : Nat} {cs : Array Value} {t : TypeId} (h : w.heap[b]? = some (.cells cs t (0, 0))) : w.frozen? ⟨b, j, none⟩ = false := by
  simp [World.frozen?, h]
theorem heap_alloc_old {w : World} {o : Obj} {k : Nat} {x : Obj} (h : w.heap[k]? = some x) : (w.alloc o).heap[k]? = some x :=
  (Below.heap_alloc w o k (lt_of_some h)).trans h
theorem cell_alloc_old {w : World} {o : Obj} {a : Addr} {v : Value} (h : w.cell? a = some v) : (w.alloc o).cell? a = some v :=
  (World.cell?_alloc_old w o a (by have := World.block_lt_of_cell? w a h; omega)).trans h
/-- w' is w with new blocks, and with writes to the blocks in X alone. -/
structure Fr (X : Nat → Prop) (w w' : World) : Prop where
  os : w'.os = w.os
  tape : w'.tape = w.tape
  output : w'.output = w.output
  size : w.heap.size ≤ w'.heap.size
  block : ∀ k, k < w.heap.size → ¬ X k → w'.heap[k]? = w.heap[k]?
theorem Fr.refl (X : Nat → Prop) (w : World) : Fr X w w := ⟨rfl, rfl, rfl, Nat.le_refl _, fun _ _ _ => rfl⟩
theorem Fr.trans {X : Nat → Prop} {a b c : World} (h : Fr X a b) (k : Fr X b c) : Fr X a c :=
  ⟨k.os.trans h.os, k.tape.trans h.tape, k.output.trans h.output, Nat.le_trans h.size k.size, fun i hi hx => (k.block i (Nat.lt_of_lt_of_le hi h.size) hx).trans (h.block i hi hx)⟩
theorem Fr.mono {X Y : Nat → Prop} {w w' : World} (h : Fr X w w') (hXY : ∀ k, k < w.heap.size → X k → Y k) : Fr Y w w' := ⟨h.os, h.tape, h.output, h.size, fun k hk hx => h.block k hk (fun hX => hx (hXY k hk hX))⟩
theorem Fr.of_grown {w w' : World} {row : Option Nat} (h : w.grownBy w' row) {X : Nat → Prop} (hX : ∀ k, row = some k → X k) : Fr X w w' := ⟨h.os, h.tape, h.output, h.size, fun k hk hx => h.block k hk (fun e => hx (hX k e.symm))⟩
theorem Fr.of_below {w w' : World} (h : Below w.heap.size w w') (X : Nat → Prop) : Fr X w w' := ⟨h.os, h.tape, h.output, h.size, fun k hk _ => h.block k hk⟩
theorem Fr.below {X : Nat → Prop} {w w' : World} (h : Fr X w w') {B : Nat} (hB : B ≤ w.heap.size) (hX : ∀ k, X k → B ≤ k) : Below B w w' := ⟨h.os, h.tape, h.output, h.size, fun k hk => h.block k (by omega) (fun hx => by have := hX k hx; omega)⟩
theorem Fr.alloc {X : Nat → Prop} {w0 w : World} (h : Fr X w0 w) (o : Obj) : Fr X w0 (w.alloc o) := h.trans (Fr.of_below (below_alloc w o) X)
theorem Fr.drew {X : Nat → Prop} {w0 w : World} (h : Fr X w0 w) : Fr X w0 w.drew := ⟨h.os, h.tape, h.output, h.size, h.block⟩
theorem Fr.drewN {X : Nat → Prop} {w0 w : World} (h : Fr X w0 w) (n : Nat) : Fr X w0 (w.drewN n) := ⟨h.os, h.tape, h.output, h.size, h.block⟩
theorem Fr.setCell {X : Nat → Prop} {w0 w : World} (h : Fr X w0 w) {W : Nat} (hW : X W) (k : Nat) (v : Value) : Fr X w0 (w.setCell ⟨W, k, none⟩ v) := by
  refine ⟨h.os, h.tape, h.output, by simpa [World.setCell] using h.size, fun j hj hne => ?_⟩
  rw [heap_setCell_other (fun e => hne (by rw [← e]; exact hW))]
  exact h.block j hj hne
theorem Fr.cell {X : Nat → Prop} {w w' : World} (h : Fr X w w') {a : Addr} {v : Value} (hc : w.cell? a = some v) (hx : ¬ X a.block) : w'.cell? a = some v := by
  rw [World.cell?_of_block (h.block a.block (World.block_lt_of_cell? w a hc) hx)]
  exact hc
theorem size_setCell (w : World) (a : Addr) (v : Value) : (w.setCell a v).heap.size = w.heap.size := by simp [World.setCell]
theorem cell_set_other {w : World} {W k : Nat} {a : Addr} {v u : Value} (hne : a.block ≠ W) (h : w.cell? a = some u) : (w.setCell ⟨W, k, none⟩ v).cell? a = some u := by
  rw [World.cell?_setCell_other _ _ _ _ (by intro e; exact hne (by rw [← e]))]
  exact h
/-- The place of a leaf's k-th span. -/
def place (i k : Nat) : Nat := (k * 7 + i) % 16
theorem place_lt (i k : Nat) : place i k < 16 := Nat.mod_lt _ (by decide)
theorem place_mod (i k : Nat) : place (i % 16) k = place i k := by simp only [place]; omega
/-- The bits of a leaf of c spans. -/
def mask (i : Nat) : Nat → Nat
  | 0 => 0
  | c + 1 => mask i c ||| 2 ^ place i c
theorem mask_mod (i : Nat) : ∀ c, mask (i % 16) c = mask i c
  | 0 => rfl
  | c + 1 => by simp only [mask, mask_mod i c, place_mod]
def tab : ByteArray := { data := (([0, 1, 1, 2, 1, 2, 2, 3, 1, 2, 2, 3, 2, 3, 3, 4, 1, 2, 2, 3, 2, 3, 3, 4, 2, 3, 3, 4, 3, 4, 4, 5, 1, 2, 2, 3, 2, 3, 3, 4, 2, 3, 3, 4, 3, 4, 4, 5, 2, 3, 3, 4, 3, 4, 4, 5, 3, 4, 4, 5, 4, 5, 5, 6].append [1, 2, 2, 3, 2, 3, 3, 4, 2, 3, 3, 4, 3, 4, 4, 5, 2, 3, 3, 4, 3, 4, 4, 5, 3, 4, 4, 5, 4, 5, 5, 6, 2, 3, 3, 4, 3, 4, 4, 5, 3, 4, 4, 5, 4, 5, 5, 6, 3, 4, 4, 5, 4, 5, 5, 6, 4, 5, 5, 6, 5, 6, 6, 7]).append ([1, 2, 2, 3, 2, 3, 3, 4, 2, 3, 3, 4, 3, 4, 4, 5, 2, 3, 3, 4, 3, 4, 4, 5, 3, 4, 4, 5, 4, 5, 5, 6, 2, 3, 3, 4, 3, 4, 4, 5, 3, 4, 4, 5, 4, 5, 5, 6, 3, 4, 4, 5, 4, 5, 5, 6, 4, 5, 5, 6, 5, 6, 6, 7].append [2, 3, 3, 4, 3, 4, 4, 5, 3, 4, 4, 5, 4, 5, 5, 6, 3, 4, 4, 5, 4, 5, 5, 6, 4, 5, 5, 6, 5, 6, 6, 7, 3, 4, 4, 5, 4, 5, 5, 6, 4, 5, 5, 6, 5, 6, 6, 7, 4, 5, 5, 6, 5, 6, 6, 7, 5, 6, 6, 7, 6, 7, 7, 8])).toArray }
def tv (i : Int) : Int := if hi : 0 ≤ i ∧ i < tab.size then (tab[i.toNat]'(by omega)).toNat else 0
theorem run_tab (k : IntKind) (i : Int) (h0 : 0 ≤ i) (h1 : i < 256) (w : World) : (Instr.index 9 (.string tab) (.int k i)).run Yba.prog w = .ok (.int .u8 (tv i)) w := by
  have hsz : tab.size = 256 := by kernel_rfl
  rw [run_index_string w 9 tab k i Yba.underlying9]
  have hi : 0 ≤ i ∧ i < tab.size := by omega
  rw [dif_pos hi]; simp [tv, hi]
theorem mask_facts16 : ∀ i, i < 16 → ∀ c, c < 17 → mask i c < 65536 ∧ 0 ≤ bits BinOp.and IntKind.u16 (mask i c : Int) 255 ∧ bits BinOp.and IntKind.u16 (mask i c : Int) 255 < 256 ∧ (tv ((mask i c : Int) / 256) + tv (bits BinOp.and IntKind.u16 (mask i c : Int) 255)) = c := by
  decide +kernel
theorem mask_facts (i c : Nat) (hc : c ≤ 16) : mask i c < 65536 ∧ 0 ≤ bits BinOp.and IntKind.u16 (mask i c : Int) 255 ∧ bits BinOp.and IntKind.u16 (mask i c : Int) 255 < 256 ∧ (tv ((mask i c : Int) / 256) + tv (bits BinOp.and IntKind.u16 (mask i c : Int) 255)) = c := by
  have h := mask_facts16 (i % 16) (Nat.mod_lt _ (by decide)) c (by omega)
  rwa [mask_mod] at h
theorem ones (i c : Nat) (hc : c ≤ 16) (w : World) :
    Calls Yba.prog 34 #[.int .u16 (mask i c)] w fun e w' => e = .returned (.int .i64 c) ∧ ∃ n, w' = w.drewN n := by
  obtain ⟨m1, m2, m3, m4⟩ := mask_facts i c hc
  have r1 := fun w => run_tab .u16 ((mask i c : Int) / 256) (by omega) (by omega) w
  have r2 := fun w => run_tab .u16 (bits BinOp.and IntKind.u16 (mask i c : Int) 255) m2 m3 w
  generalize hm : (mask i c : Int) = x at *
  have hx0 : 0 ≤ x := by omega
  have hx1 : x < 65536 := by omega
  go_enter Yba.func34, Yba.ntmps34
  go_wp2
  rw [show ({ data := (([0, 1, 1, 2, 1, 2, 2, 3, 1, 2, 2, 3, 2, 3, 3, 4, 1, 2, 2, 3, 2, 3, 3, 4, 2, 3, 3, 4, 3, 4, 4, 5, 1, 2, 2, 3, 2, 3, 3, 4, 2, 3, 3, 4, 3, 4, 4, 5, 2, 3, 3, 4, 3, 4, 4, 5, 3, 4, 4, 5, 4, 5, 5, 6].append [1, 2, 2, 3, 2, 3, 3, 4, 2, 3, 3, 4, 3, 4, 4, 5, 2, 3, 3, 4, 3, 4, 4, 5, 3, 4, 4, 5, 4, 5, 5, 6, 2, 3, 3, 4, 3, 4, 4, 5, 3, 4, 4, 5, 4, 5, 5, 6, 3, 4, 4, 5, 4, 5, 5, 6, 4, 5, 5, 6, 5, 6, 6, 7]).append ([1, 2, 2, 3, 2, 3, 3, 4, 2, 3, 3, 4, 3, 4, 4, 5, 2, 3, 3, 4, 3, 4, 4, 5, 3, 4, 4, 5, 4, 5, 5, 6, 2, 3, 3, 4, 3, 4, 4, 5, 3, 4, 4, 5, 4, 5, 5, 6, 3, 4, 4, 5, 4, 5, 5, 6, 4, 5, 5, 6, 5, 6, 6, 7].append [2, 3, 3, 4, 3, 4, 4, 5, 3, 4, 4, 5, 4, 5, 5, 6, 3, 4, 4, 5, 4, 5, 5, 6, 4, 5, 5, 6, 5, 6, 6, 7, 3, 4, 4, 5, 4, 5, 5, 6, 4, 5, 5, 6, 5, 6, 6, 7, 4, 5, 5, 6, 5, 6, 6, 7, 5, 6, 6, 7, 6, 7, 7, 8])).toArray } : ByteArray) = tab from rfl]
  generalize tab = T at *
  go_quiet (fail)
  go_wp2
  go_ret
  exact ⟨rfl, nq, rfl⟩
end Go.Proofs.Ybulkcftm

import Derived.Test.YbulkcfriKeys
import Derived.Test.YbulkcfriNewSite
import Derived.BigQuiet
import Derived.BigRegion
import Derived.Deep.QuietTactic
import Derived.Laws.Pointers
namespace Go.Proofs.Ybulkcfri
open Go.ChangeShapes Go.WideShapes Go.ChangeAt Go.RowKit

/-- The cells of a walk. -/
def walkCells (idI idN : Int) (home : ByteArray) (m1 m2 ga gb out found pt : Value) : Array Value :=
  #[.int .u64 idI, .int .u64 idN, .string home, m1, m2, ga, gb, out, found, pt]
theorem cell_of {w : World} {b j : Nat} {cs : Array Value} {t : TypeId} {v : Value} (h : w.heap[b]? = some (.cells cs t (0, 0))) (hj : cs[j]? = some v) : w.cell? ⟨b, j, none⟩ = some v := by
  simp [World.cell?, h, hj]
theorem free_of {w : World} {b j : Nat} {cs : Array Value} {t : TypeId} (h : w.heap[b]? = some (.cells cs t (0, 0))) : w.frozen? ⟨b, j, none⟩ = false := by
  simp [World.frozen?, h]
theorem heap_alloc_old {w : World} {o : Obj} {k : Nat} {x : Obj} (h : w.heap[k]? = some x) : (w.alloc o).heap[k]? = some x :=
  (Below.heap_alloc w o k (lt_of_some h)).trans h
theorem cell_alloc_old {w : World} {o : Obj} {a : Addr} {v : Value} (h : w.cell? a = some v) : (w.alloc o).cell? a = some v :=
  (World.cell?_alloc_old w o a (by have := World.block_lt_of_cell? w a h; omega)).trans h
/-- w' is w with new blocks, and with writes to the blocks in X alone. -/
structure Fr (X : Nat → Prop) (w w' : World) : Prop where
  os : w'.os = w.os
  tape : w'.tape = w.tape
  output : w'.output = w.output
  size : w.heap.size ≤ w'.heap.size
  block : ∀ k, k < w.heap.size → ¬ X k → w'.heap[k]? = w.heap[k]?
theorem Fr.refl (X : Nat → Prop) (w : World) : Fr X w w := ⟨rfl, rfl, rfl, Nat.le_refl _, fun _ _ _ => rfl⟩
theorem Fr.trans {X : Nat → Prop} {a b c : World} (h : Fr X a b) (k : Fr X b c) : Fr X a c :=
  ⟨k.os.trans h.os, k.tape.trans h.tape, k.output.trans h.output, Nat.le_trans h.size k.size, fun i hi hx => (k.block i (Nat.lt_of_lt_of_le hi h.size) hx).trans (h.block i hi hx)⟩
theorem Fr.mono {X Y : Nat → Prop} {w w' : World} (h : Fr X w w') (hXY : ∀ k, k < w.heap.size → X k → Y k) : Fr Y w w' := ⟨h.os, h.tape, h.output, h.size, fun k hk hx => h.block k hk (fun hX => hx (hXY k hk hX))⟩
theorem Fr.of_grown {w w' : World} {row : Option Nat} (h : w.grownBy w' row) {X : Nat → Prop} (hX : ∀ k, row = some k → X k) : Fr X w w' := ⟨h.os, h.tape, h.output, h.size, fun k hk hx => h.block k hk (fun e => hx (hX k e.symm))⟩
theorem Fr.of_below {w w' : World} (h : Below w.heap.size w w') (X : Nat → Prop) : Fr X w w' := ⟨h.os, h.tape, h.output, h.size, fun k hk _ => h.block k hk⟩
theorem Fr.below {X : Nat → Prop} {w w' : World} (h : Fr X w w') {B : Nat} (hB : B ≤ w.heap.size) (hX : ∀ k, X k → B ≤ k) : Below B w w' := ⟨h.os, h.tape, h.output, h.size, fun k hk => h.block k (by omega) (fun hx => by have := hX k hx; omega)⟩
theorem Fr.alloc {X : Nat → Prop} {w0 w : World} (h : Fr X w0 w) (o : Obj) : Fr X w0 (w.alloc o) := h.trans (Fr.of_below (below_alloc w o) X)
theorem Fr.drew {X : Nat → Prop} {w0 w : World} (h : Fr X w0 w) : Fr X w0 w.drew := ⟨h.os, h.tape, h.output, h.size, h.block⟩
theorem Fr.drewN {X : Nat → Prop} {w0 w : World} (h : Fr X w0 w) (n : Nat) : Fr X w0 (w.drewN n) := ⟨h.os, h.tape, h.output, h.size, h.block⟩
theorem Fr.setCell {X : Nat → Prop} {w0 w : World} (h : Fr X w0 w) {W : Nat} (hW : X W) (k : Nat) (v : Value) : Fr X w0 (w.setCell ⟨W, k, none⟩ v) := by
  refine ⟨h.os, h.tape, h.output, by simpa [World.setCell] using h.size, fun j hj hne => ?_⟩
  rw [heap_setCell_other (fun e => hne (by rw [← e]; exact hW))]
  exact h.block j hj hne
theorem Fr.cell {X : Nat → Prop} {w w' : World} (h : Fr X w w') {a : Addr} {v : Value} (hc : w.cell? a = some v) (hx : ¬ X a.block) : w'.cell? a = some v := by
  rw [World.cell?_of_block (h.block a.block (World.block_lt_of_cell? w a hc) hx)]
  exact hc
theorem size_setCell (w : World) (a : Addr) (v : Value) : (w.setCell a v).heap.size = w.heap.size := by simp [World.setCell]
/-- What stands in the midst of 'goBack': the walk's block W with its out and found; the site's name; the argument u at U, the wait at U + 1. -/
structure Mid (X : Nat → Prop) (S W U : Nat) (site uHome home : ByteArray) (up p idI idN : Int) (m1 m2 ga gb out found pt : Value) (w0 w : World) : Prop where
  s : w.cell? ⟨S, 0, none⟩ = some (.string site)
  blk : w.heap[W]? = some (.cells (walkCells idI idN home m1 m2 ga gb out found pt) 37 (0, 0))
  u0 : w.cell? ⟨U, 0, none⟩ = some (.int .u64 up)
  u1 : w.cell? ⟨U, 1, none⟩ = some (.string uHome)
  f0 : w.cell? ⟨U + 1, 0, none⟩ = some (.int .u64 up)
  f1 : w.cell? ⟨U + 1, 1, none⟩ = some (.int .u64 p)
  hs : S ≠ W
  hu : U ≠ W
  hu1 : U + 1 ≠ W
  hx : X W
  fr : Fr X w0 w

section
variable {X : Nat → Prop} {S W U : Nat} {site uHome home : ByteArray} {up p idI idN : Int} {m1 m2 ga gb out found pt : Value} {w0 w : World}
theorem Mid.alloc (h : Mid X S W U site uHome home up p idI idN m1 m2 ga gb out found pt w0 w) (o : Obj) : Mid X S W U site uHome home up p idI idN m1 m2 ga gb out found pt w0 (w.alloc o) :=
  ⟨cell_alloc_old h.s, heap_alloc_old h.blk, cell_alloc_old h.u0, cell_alloc_old h.u1, cell_alloc_old h.f0, cell_alloc_old h.f1, h.hs, h.hu, h.hu1, h.hx, h.fr.alloc o⟩
theorem Mid.drew (h : Mid X S W U site uHome home up p idI idN m1 m2 ga gb out found pt w0 w) : Mid X S W U site uHome home up p idI idN m1 m2 ga gb out found pt w0 w.drew :=
  ⟨h.s, h.blk, h.u0, h.u1, h.f0, h.f1, h.hs, h.hu, h.hu1, h.hx, h.fr.drew⟩
theorem Mid.drewN (h : Mid X S W U site uHome home up p idI idN m1 m2 ga gb out found pt w0 w) (n : Nat) : Mid X S W U site uHome home up p idI idN m1 m2 ga gb out found pt w0 (w.drewN n) :=
  ⟨h.s, h.blk, h.u0, h.u1, h.f0, h.f1, h.hs, h.hu, h.hu1, h.hx, h.fr.drewN n⟩
theorem cell_set_other {w : World} {W k : Nat} {a : Addr} {v u : Value} (hne : a.block ≠ W) (h : w.cell? a = some u) : (w.setCell ⟨W, k, none⟩ v).cell? a = some u := by
  rw [World.cell?_setCell_other _ _ _ _ (by intro e; exact hne (by rw [← e]))]
  exact h
theorem Mid.setFound (h : Mid X S W U site uHome home up p idI idN m1 m2 ga gb out found pt w0 w) (v : Value) : Mid X S W U site uHome home up p idI idN m1 m2 ga gb out v pt w0 (w.setCell ⟨W, 8, none⟩ v) :=
  ⟨cell_set_other h.hs h.s, by rw [heap_setCell_same h.blk]; rfl, cell_set_other h.hu h.u0, cell_set_other h.hu h.u1, cell_set_other h.hu1 h.f0, cell_set_other h.hu1 h.f1, h.hs, h.hu, h.hu1, h.hx, h.fr.setCell h.hx 8 v⟩
theorem Mid.setOut (h : Mid X S W U site uHome home up p idI idN m1 m2 ga gb out found pt w0 w) (v : Value) : Mid X S W U site uHome home up p idI idN m1 m2 ga gb v found pt w0 (w.setCell ⟨W, 7, none⟩ v) :=
  ⟨cell_set_other h.hs h.s, by rw [heap_setCell_same h.blk]; rfl, cell_set_other h.hu h.u0, cell_set_other h.hu h.u1, cell_set_other h.hu1 h.f0, cell_set_other h.hu1 h.f1, h.hs, h.hu, h.hu1, h.hx, h.fr.setCell h.hx 7 v⟩
end

theorem cap39 : Builtin.nextslicecap 1 0 * Yba.t39.bytes = 16 := by decide +kernel
theorem cap49 : Builtin.nextslicecap 1 0 * Yba.t49.bytes = 152 := by decide +kernel

/-- The message that 'goBack' sends. -/
def msgCells (site uHome home : ByteArray) (up p idI idN : Int) : Array Value :=
  #[.int .i64 4, .string site, .string uHome, .int .u64 idI, .int .u64 idN, .int .u64 up, .int .u64 p, .int .u64 0, .string home, .slice none 0 0, .slice none 0 0, .bool false, .bool false]

/-- The slice v holds the one element cs. -/
def OneOf (w : World) (v : Value) (cs : Array Value) : Prop := ∃ g cap, v = .slice (some ⟨g, 0, none⟩) 1 cap ∧ ∀ j u, cs[j]? = some u → w.cell? ⟨g, j, none⟩ = some u

theorem oneOf_new (w : World) (cs rest : Array Value) (t : TypeId) (cap : Nat) : OneOf (w.alloc (.cells (cs ++ rest) t)) (.slice (some ⟨w.heap.size, 0, none⟩) 1 cap) cs := by
  refine ⟨_, cap, rfl, fun j u hj => ?_⟩
  have hlt : j < cs.size := (Array.getElem?_eq_some_iff.1 hj).1
  refine cell_of (cs := cs ++ rest) (t := t) ?_ ?_
  · rw [heap_alloc]; simp
  · rw [Array.getElem?_append_left hlt]; exact hj
theorem OneOf.fr {X : Nat → Prop} {w w' : World} {v : Value} {cs : Array Value} (h : OneOf w v cs) (hg : Fr X w w') (hne : ∀ g cap, v = .slice (some ⟨g, 0, none⟩) 1 cap → ¬ X g) : OneOf w' v cs := by
  obtain ⟨g, cap, rfl, hc⟩ := h
  exact ⟨g, cap, rfl, fun j u hj => hg.cell (hc j u hj) (hne g cap rfl)⟩
end Go.Proofs.Ybulkcfri

import Derived.Test.YbulkcftmSpans
import Derived.Test.YbulkcftmClos
import Derived.OwnWalk
import Derived.Maps.AppendAt
namespace Go.Proofs.Ybulkcftm
open Go.ChangeShapes Go.WideShapes Go.ChangeAt Go.RowKit
theorem info26 : (Yba.prog.info? 26).map (fun i => (i.zero, i.size, i.bytes)) = some (some (.pointer none), 1, 8) := by kernel_rfl
theorem info3 : (Yba.prog.info? 3).map (fun i => (i.zero, i.size, i.bytes)) = some (some (.int .i64 0), 1, 8) := by kernel_rfl
theorem place_any (w : World) (i k : Nat) (hi : i < 4096) (hk : k < 4096) :
    Calls Yba.prog 5 #[.int .i64 i, .int .i64 k] w fun e w' => e = .returned (.int .i64 (place i k)) ∧ w' = w := by
  by_cases h0 : i = 0
  · subst h0
    have hp : Hid (((place 0 k : Nat) : Int) = (k : Int) * 7 % 16) := by show _ = _; simp only [place]; omega
    go_enter Yba.func5, Yba.ntmps5
    go_wp2
    go_ret
    refine ⟨?_, rfl⟩
    rw [hp.out]; rfl
  · have hp : Hid (((place i k : Nat) : Int) = ((k : Int) * 7 + i) % 16) := by show _ = _; simp only [place]; omega
    have hb : ((i : Int) == 0) = false := by simp; omega
    go_enter Yba.func5, Yba.ntmps5
    go_wp2
    go_ret
    refine ⟨?_, rfl⟩
    rw [hp.out]; rfl
/-- The zero block. -/
noncomputable def Z39 : Array Value := match (Yba.prog.info? 39).bind (·.zero) with | some (.agg cs) => cs | _ => #[]
theorem Z39_size : Z39.size = 201 := by kernel_rfl
theorem Z39_used : Z39[16]? = some (.int .u16 0) := by kernel_rfl
theorem Z39_next : Z39[24]? = some (.pointer none) := by kernel_rfl
theorem Z39_some : (Yba.prog.info? 39).bind (·.zero) = some (.agg Z39) := by kernel_rfl
theorem run_zero39 (w : World) : (zeroValue 39).run Yba.prog w = .ok (.agg Z39) w := by
  have h := Z39_some
  cases hi : Yba.prog.info? 39 with
  | none => rw [hi] at h; cases h
  | some i =>
    rw [hi] at h
    have hz : i.zero = some (.agg Z39) := h
    simp [zeroValue, typeInfo, hi, hz]

/-- The cells of leaf i with c spans, o the first span's number. -/
structure LeafCs (cs : Array Value) (i c o : Nat) (nxt : Option Addr) : Prop where
  size : cs.size = 201
  ord : ∀ k, k < c → cs[k]? = some (.int .u8 (place i k))
  used : cs[16]? = some (.int .u16 (mask i c))
  next : cs[24]? = some (.pointer nxt)
  seq : ∀ k, k < c → 0 < o + k → cs[25 + place i k * 11 + 3]? = some (.int .u64 ((o + k : Nat) : Int))
  del : ∀ k, k < c → 0 < o + k → cs[25 + place i k * 11 + 9]? = some (.bool ((((o + k : Nat) : Int)) % 3 == 0))
theorem getSet (cs : Array Value) (q : Nat) (v : Value) (j : Nat) (h : q ≠ j) : (cs.setIfInBounds q v)[j]? = cs[j]? := by
  rw [Array.getElem?_setIfInBounds, if_neg h]
theorem getSetSame (cs : Array Value) (q : Nat) (v : Value) (h : q < cs.size) : (cs.setIfInBounds q v)[q]? = some v := by
  rw [Array.getElem?_setIfInBounds, if_pos rfl, if_pos h]
theorem LeafCs.zero (i o : Nat) : LeafCs Z39 i 0 o none :=
  ⟨Z39_size, fun k h => by omega, Z39_used, Z39_next, fun k h => by omega, fun k h => by omega⟩
theorem LeafCs.put23 {cs : Array Value} {i c o : Nat} {nxt : Option Addr} (h : LeafCs cs i c o nxt) (hc : c ≤ 16) (v : Value) : LeafCs (cs.setIfInBounds 23 v) i c o nxt :=
  ⟨by rw [Array.size_setIfInBounds]; exact h.size, fun k hk => (getSet _ _ _ _ (by omega)).trans (h.ord k hk), (getSet _ _ _ _ (by omega)).trans h.used, (getSet _ _ _ _ (by omega)).trans h.next,
   fun k hk h0 => (getSet _ _ _ _ (by omega)).trans (h.seq k hk h0), fun k hk h0 => (getSet _ _ _ _ (by omega)).trans (h.del k hk h0)⟩
theorem LeafCs.put24 {cs : Array Value} {i c o : Nat} {nxt : Option Addr} (h : LeafCs cs i c o nxt) (hc : c ≤ 16) (nxt' : Option Addr) : LeafCs (cs.setIfInBounds 24 (.pointer nxt')) i c o nxt' :=
  ⟨by rw [Array.size_setIfInBounds]; exact h.size, fun k hk => (getSet _ _ _ _ (by omega)).trans (h.ord k hk), (getSet _ _ _ _ (by omega)).trans h.used, getSetSame _ _ _ (by rw [h.size]; omega),
   fun k hk h0 => (getSet _ _ _ _ (by omega)).trans (h.seq k hk h0), fun k hk h0 => (getSet _ _ _ _ (by omega)).trans (h.del k hk h0)⟩
theorem LeafCs.first {cs : Array Value} {nxt : Option Addr} (h : LeafCs cs 0 0 0 nxt) : LeafCs ((cs.setIfInBounds 0 (.int .u8 (place 0 0))).setIfInBounds 16 (.int .u16 (mask 0 1))) 0 1 0 nxt := by
  refine ⟨by simp only [Array.size_setIfInBounds]; exact h.size, fun k hk => ?_, ?_, ?_, fun k hk h0 => by omega, fun k hk h0 => by omega⟩
  · obtain rfl : k = 0 := by omega
    rw [getSet _ _ _ _ (by omega), getSetSame _ _ _ (by rw [h.size]; omega)]
  · rw [getSetSame _ _ _ (by rw [Array.size_setIfInBounds, h.size]; omega)]
  · rw [getSet _ _ _ _ (by omega), getSet _ _ _ _ (by omega)]; exact h.next
/-- A span's eleven cells. -/
def setSpan (cs : Array Value) (q : Nat) (x0 x1 x2 x3 x4 x5 x6 x7 x8 x9 x10 : Value) : Array Value :=
  ((((((((((cs.setIfInBounds q x0).setIfInBounds (q + 1) x1).setIfInBounds (q + 2) x2).setIfInBounds (q + 3) x3).setIfInBounds (q + 4) x4).setIfInBounds (q + 5) x5).setIfInBounds (q + 6) x6).setIfInBounds (q + 7) x7).setIfInBounds (q + 8) x8).setIfInBounds (q + 9) x9).setIfInBounds (q + 10) x10
theorem setSpan_other (cs : Array Value) (q : Nat) (x0 x1 x2 x3 x4 x5 x6 x7 x8 x9 x10 : Value) (j : Nat) (h : j < q ∨ q + 10 < j) : (setSpan cs q x0 x1 x2 x3 x4 x5 x6 x7 x8 x9 x10)[j]? = cs[j]? := by
  unfold setSpan
  rw [getSet _ _ _ _ (by omega), getSet _ _ _ _ (by omega), getSet _ _ _ _ (by omega), getSet _ _ _ _ (by omega), getSet _ _ _ _ (by omega), getSet _ _ _ _ (by omega), getSet _ _ _ _ (by omega), getSet _ _ _ _ (by omega), getSet _ _ _ _ (by omega), getSet _ _ _ _ (by omega), getSet _ _ _ _ (by omega)]
theorem setSpan_size (cs : Array Value) (q : Nat) (x0 x1 x2 x3 x4 x5 x6 x7 x8 x9 x10 : Value) : (setSpan cs q x0 x1 x2 x3 x4 x5 x6 x7 x8 x9 x10).size = cs.size := by
  unfold setSpan; simp only [Array.size_setIfInBounds]
theorem setSpan_3 (cs : Array Value) (q : Nat) (x0 x1 x2 x3 x4 x5 x6 x7 x8 x9 x10 : Value) (h : q + 3 < cs.size) : (setSpan cs q x0 x1 x2 x3 x4 x5 x6 x7 x8 x9 x10)[q + 3]? = some x3 := by
  unfold setSpan
  rw [getSet _ _ _ _ (by omega), getSet _ _ _ _ (by omega), getSet _ _ _ _ (by omega), getSet _ _ _ _ (by omega), getSet _ _ _ _ (by omega), getSet _ _ _ _ (by omega), getSet _ _ _ _ (by omega), getSetSame _ _ _ (by simp only [Array.size_setIfInBounds]; exact h)]
theorem setSpan_9 (cs : Array Value) (q : Nat) (x0 x1 x2 x3 x4 x5 x6 x7 x8 x9 x10 : Value) (h : q + 9 < cs.size) : (setSpan cs q x0 x1 x2 x3 x4 x5 x6 x7 x8 x9 x10)[q + 9]? = some x9 := by
  unfold setSpan
  rw [getSet _ _ _ _ (by omega), getSetSame _ _ _ (by simp only [Array.size_setIfInBounds]; exact h)]
theorem LeafCs.step {cs : Array Value} {i k o : Nat} {nxt : Option Addr} (h : LeafCs cs i k o nxt) (hk : k < 16) (x0 x1 x2 x4 x5 x6 x7 x8 x10 : Value) :
    LeafCs (setSpan ((cs.setIfInBounds k (.int .u8 (place i k))).setIfInBounds 16 (.int .u16 (mask i (k + 1)))) (25 + place i k * 11) x0 x1 x2 (.int .u64 ((o + k : Nat) : Int)) x4 x5 x6 x7 x8 (.bool ((((o + k : Nat) : Int)) % 3 == 0)) x10) i (k + 1) o nxt := by
  have hp := place_lt i k
  refine ⟨?_, fun j hj => ?_, ?_, ?_, fun j hj h0 => ?_, fun j hj h0 => ?_⟩
  · rw [setSpan_size]; simp only [Array.size_setIfInBounds]; exact h.size
  · rw [setSpan_other _ _ _ _ _ _ _ _ _ _ _ _ _ _ (by omega), getSet _ _ _ _ (by omega)]
    by_cases e : j = k
    · rw [e, getSetSame _ _ _ (by rw [h.size]; omega)]
    · rw [getSet _ _ _ _ (by omega)]; exact h.ord j (by omega)
  · rw [setSpan_other _ _ _ _ _ _ _ _ _ _ _ _ _ _ (by omega), getSetSame _ _ _ (by rw [Array.size_setIfInBounds, h.size]; omega)]
  · rw [setSpan_other _ _ _ _ _ _ _ _ _ _ _ _ _ _ (by omega), getSet _ _ _ _ (by omega), getSet _ _ _ _ (by omega)]; exact h.next
  · by_cases e : j = k
    · rw [e, setSpan_3 _ _ _ _ _ _ _ _ _ _ _ _ _ (by simp only [Array.size_setIfInBounds]; rw [h.size]; omega)]
    · have hne : place i j ≠ place i k := fun q => e (place_inj i j k (by omega) hk q)
      have hpj := place_lt i j
      rw [setSpan_other _ _ _ _ _ _ _ _ _ _ _ _ _ _ (by omega), getSet _ _ _ _ (by omega), getSet _ _ _ _ (by omega)]; exact h.seq j (by omega) h0
  · by_cases e : j = k
    · rw [e, setSpan_9 _ _ _ _ _ _ _ _ _ _ _ _ _ (by simp only [Array.size_setIfInBounds]; rw [h.size]; omega)]
    · have hne : place i j ≠ place i k := fun q => e (place_inj i j k (by omega) hk q)
      have hpj := place_lt i j
      rw [setSpan_other _ _ _ _ _ _ _ _ _ _ _ _ _ _ (by omega), getSet _ _ _ _ (by omega), getSet _ _ _ _ (by omega)]; exact h.del j (by omega) h0
theorem LeafCs.at {cs : Array Value} {i c o : Nat} {nxt : Option Addr} (h : LeafCs cs i c o nxt) {w : World} {b : Nat} (hb : w.heap[b]? = some (.cells cs 39 (0, 0))) : LeafAt w b i c nxt :=
  ⟨fun k hk => cell_of hb (h.ord k hk), cell_of hb h.used, cell_of hb h.next⟩

/-- What the law's making holds at: R the leaves' row, r6, r7, r8 the boxes of leaves, expLeaf, expPlace; m leaves stand, ri of them in the row. -/
structure Inv (w0 : World) (R r6 r7 r8 n : Nat) (lb : Nat → Nat) (LC : Nat → Array Value → Prop) (m ri : Nat) (v1 v2 : Value) (xs1 xs2 : List Value) (wr : World) : Prop where
  bel : Below w0.heap.size w0 wr
  lo : w0.heap.size ≤ R ∧ w0.heap.size ≤ r6 ∧ w0.heap.size ≤ r7 ∧ w0.heap.size ≤ r8 ∧ r7 ≠ r8
  b6 : wr.heap[r6]? = some (.cells #[.slice (some ⟨R, 0, none⟩) n n] 23 (0, 0))
  b7 : wr.heap[r7]? = some (.cells #[v1] 24 (0, 0))
  b8 : wr.heap[r8]? = some (.cells #[v2] 24 (0, 0))
  row : ∃ cur, wr.heap[R]? = some (.cells cur 26 (0, 0)) ∧ cur.size = n ∧ ∀ j, j < ri → cur[j]? = some (.pointer (some ⟨lb j, 0, none⟩))
  o1 : wr.ownsRow w0.heap.size 3 1 v1 xs1.length xs1
  o2 : wr.ownsRow w0.heap.size 3 1 v2 xs2.length xs2
  ne : ∀ g, v1.ownBlock = some g → v2.ownBlock ≠ some g
  leaf : ∀ j, j < m → w0.heap.size ≤ lb j ∧ ∃ cs, wr.heap[lb j]? = some (.cells cs 39 (0, 0)) ∧ LC j cs
  inj : ∀ j j', j < m → j' < m → lb j = lb j' → j = j'
theorem own_tag {w : World} {base : Nat} {e : TypeId} {size n : Nat} {v : Value} {xs : List Value} (h : w.ownsRow base e size v n xs) {g : Nat} (hg : v.ownBlock = some g) : ∃ cur, w.heap[g]? = some (.cells cur e (0, 0)) := by
  rcases h.2 with ⟨rfl, _⟩ | ⟨g', cap, cur, rfl, hb, hh, _⟩
  · simp [Value.ownBlock] at hg
  · simp [Value.ownBlock] at hg; subst hg; exact ⟨cur, hh⟩
theorem own_fr {X : Nat → Prop} {w w' : World} {base : Nat} {e : TypeId} {size n : Nat} {v : Value} {xs : List Value} (h : w.ownsRow base e size v n xs) (hf : Fr X w w') (hx : ∀ g, v.ownBlock = some g → ¬ X g) : w'.ownsRow base e size v n xs := by
  refine ⟨h.1, ?_⟩
  rcases h.2 with hn | ⟨g, cap, cur, rfl, hb, hgg, rest⟩
  · exact .inl hn
  · exact .inr ⟨g, cap, cur, rfl, hb, (hf.block g (lt_of_some hgg) (hx g rfl)).trans hgg, rest⟩
theorem tag_ne {w : World} {a b : Nat} {c d : Array Value} {s t : TypeId} (ha : w.heap[a]? = some (.cells c s (0, 0))) (hb : w.heap[b]? = some (.cells d t (0, 0))) (h : s ≠ t) : a ≠ b := by
  rintro rfl
  rw [ha] at hb
  injection hb with hb
  injection hb with _ hb _
  exact h hb
section
variable {w0 : World} {R r6 r7 r8 n : Nat} {lb : Nat → Nat} {LC LC' : Nat → Array Value → Prop} {m ri : Nat} {v1 v2 : Value} {xs1 xs2 : List Value} {wr w' : World}
/-- Writes to a block that none of these is. -/
theorem Inv.other (h : Inv w0 R r6 r7 r8 n lb LC m ri v1 v2 xs1 xs2 wr) {X : Nat → Prop} (hf : Fr X wr w') (hlo : ∀ k, X k → w0.heap.size ≤ k) (h6 : ¬ X r6) (h7 : ¬ X r7) (h8 : ¬ X r8) (hR : ¬ X R) (h1 : ∀ g, v1.ownBlock = some g → ¬ X g) (h2 : ∀ g, v2.ownBlock = some g → ¬ X g) (hl : ∀ j, j < m → ¬ X (lb j)) :
    Inv w0 R r6 r7 r8 n lb LC m ri v1 v2 xs1 xs2 w' :=
  ⟨h.bel.trans (hf.below h.bel.size hlo), h.lo, (hf.block _ (lt_of_some h.b6) h6).trans h.b6, (hf.block _ (lt_of_some h.b7) h7).trans h.b7, (hf.block _ (lt_of_some h.b8) h8).trans h.b8,
   (by obtain ⟨cur, hc, r⟩ := h.row; exact ⟨cur, (hf.block _ (lt_of_some hc) hR).trans hc, r⟩), own_fr h.o1 hf h1, own_fr h.o2 hf h2, h.ne,
   (fun j hj => by obtain ⟨q, cs, hc, r⟩ := h.leaf j hj; exact ⟨q, cs, (hf.block _ (lt_of_some hc) (hl j hj)).trans hc, r⟩), h.inj⟩
theorem Inv.below (h : Inv w0 R r6 r7 r8 n lb LC m ri v1 v2 xs1 xs2 wr) (hb : Below wr.heap.size wr w') : Inv w0 R r6 r7 r8 n lb LC m ri v1 v2 xs1 xs2 w' :=
  h.other (Fr.of_below hb (fun _ => False)) (fun _ x => x.elim) id id id id (fun _ _ => id) (fun _ _ => id) (fun _ _ => id)
theorem Inv.alloc (h : Inv w0 R r6 r7 r8 n lb LC m ri v1 v2 xs1 xs2 wr) (o : Obj) : Inv w0 R r6 r7 r8 n lb LC m ri v1 v2 xs1 xs2 (wr.alloc o) := h.below (below_alloc _ _)
/-- Writes to the leaf j0 alone. -/
theorem Inv.setLeaf (h : Inv w0 R r6 r7 r8 n lb LC m ri v1 v2 xs1 xs2 wr) (j0 : Nat) (hj0 : j0 < m) (hf : Fr (· = lb j0) wr w') (cs' : Array Value) (hc' : w'.heap[lb j0]? = some (.cells cs' 39 (0, 0))) (hLC : ∀ j cs, j < m → j ≠ j0 → LC j cs → LC' j cs) (hn : LC' j0 cs') :
    Inv w0 R r6 r7 r8 n lb LC' m ri v1 v2 xs1 xs2 w' := by
  obtain ⟨q, cs, hc, hcc⟩ := h.leaf j0 hj0
  have n6 := (tag_ne h.b6 hc (by decide)); have n7 := (tag_ne h.b7 hc (by decide)); have n8 := (tag_ne h.b8 hc (by decide))
  obtain ⟨cur, hrow, r⟩ := h.row
  have nR := tag_ne hrow hc (by decide)
  have nv : ∀ {v : Value} {xs : List Value}, wr.ownsRow w0.heap.size 3 1 v xs.length xs → ∀ g, v.ownBlock = some g → g ≠ lb j0 := fun ho g hg => by
    obtain ⟨cur, hh⟩ := own_tag ho hg
    exact tag_ne hh hc (by decide)
  refine ⟨h.bel.trans (hf.below h.bel.size (fun k hk => by rw [hk]; exact q)), h.lo, (hf.block _ (lt_of_some h.b6) n6).trans h.b6, (hf.block _ (lt_of_some h.b7) n7).trans h.b7, (hf.block _ (lt_of_some h.b8) n8).trans h.b8,
   ⟨cur, (hf.block _ (lt_of_some hrow) nR).trans hrow, r⟩, own_fr h.o1 hf (nv h.o1), own_fr h.o2 hf (nv h.o2), h.ne, fun j hj => ?_, h.inj⟩
  by_cases e : j = j0
  · subst e; exact ⟨q, cs', hc', hn⟩
  · obtain ⟨q2, cs2, hc2, r2⟩ := h.leaf j hj
    exact ⟨q2, cs2, (hf.block _ (lt_of_some hc2) (fun x => e (h.inj j j0 hj hj0 x))).trans hc2, hLC j cs2 hj e r2⟩
theorem Inv.imp (h : Inv w0 R r6 r7 r8 n lb LC m ri v1 v2 xs1 xs2 wr) (hLC : ∀ j cs, j < m → LC j cs → LC' j cs) : Inv w0 R r6 r7 r8 n lb LC' m ri v1 v2 xs1 xs2 wr :=
  ⟨h.bel, h.lo, h.b6, h.b7, h.b8, h.row, h.o1, h.o2, h.ne, fun j hj => by obtain ⟨q, cs, hc, r⟩ := h.leaf j hj; exact ⟨q, cs, hc, hLC j cs hj r⟩, h.inj⟩
/-- A leaf more. -/
theorem Inv.newLeaf (h : Inv w0 R r6 r7 r8 n lb LC m ri v1 v2 xs1 xs2 wr) (cs : Array Value) (hri : ri ≤ m) (hLC : ∀ j cs, j < m → LC j cs → LC' j cs) (hn : LC' m cs) :
    Inv w0 R r6 r7 r8 n (fun j => if j = m then wr.heap.size else lb j) LC' (m + 1) ri v1 v2 xs1 xs2 (wr.alloc (.cells cs 39)) := by
  have h' := h.alloc (.cells cs 39)
  refine ⟨h'.bel, h'.lo, h'.b6, h'.b7, h'.b8, ?_, h'.o1, h'.o2, h'.ne, fun j hj => ?_, fun j j' hj hj' e => ?_⟩
  · obtain ⟨cur, hc, hs, hr⟩ := h'.row
    exact ⟨cur, hc, hs, fun j hj => by rw [if_neg (by omega)]; exact hr j hj⟩
  · by_cases e : j = m
    · subst e; simp only [if_true]; exact ⟨h.bel.size, cs, by rw [heap_alloc, if_pos rfl], hn⟩
    · simp only [if_neg e]
      obtain ⟨q, cs2, hc2, r2⟩ := h'.leaf j (by omega)
      exact ⟨q, cs2, hc2, hLC j cs2 (by omega) r2⟩
  · by_cases e1 : j = m
    · by_cases e2 : j' = m
      · omega
      · simp only [if_pos e1, if_neg e2] at e
        obtain ⟨q, cs2, hc2, r2⟩ := h.leaf j' (by omega)
        have := lt_of_some hc2
        omega
    · by_cases e2 : j' = m
      · simp only [if_neg e1, if_pos e2] at e
        obtain ⟨q, cs2, hc2, r2⟩ := h.leaf j (by omega)
        have := lt_of_some hc2
        omega
      · simp only [if_neg e1, if_neg e2] at e
        exact h.inj j j' (by omega) (by omega) e
/-- The row's next entry. -/
theorem Inv.setRow (h : Inv w0 R r6 r7 r8 n lb LC m ri v1 v2 xs1 xs2 wr) (hri : ri < n) : Inv w0 R r6 r7 r8 n lb LC m (ri + 1) v1 v2 xs1 xs2 (wr.setCell ⟨R, ri, none⟩ (.pointer (some ⟨lb ri, 0, none⟩))) := by
  obtain ⟨cur, hrow, hs, hr⟩ := h.row
  have hf : Fr (· = R) wr (wr.setCell ⟨R, ri, none⟩ (.pointer (some ⟨lb ri, 0, none⟩))) := (Fr.refl (· = R) _).setCell (W := R) rfl _ _
  have nv : ∀ {v : Value} {xs : List Value}, wr.ownsRow w0.heap.size 3 1 v xs.length xs → ∀ g, v.ownBlock = some g → g ≠ R := fun ho g hg => by
    obtain ⟨cur, hh⟩ := own_tag ho hg
    exact tag_ne hh hrow (by decide)
  refine ⟨h.bel.trans (hf.below h.bel.size (fun k hk => by rw [hk]; exact h.lo.1)), h.lo, (hf.block _ (lt_of_some h.b6) (tag_ne h.b6 hrow (by decide))).trans h.b6, (hf.block _ (lt_of_some h.b7) (tag_ne h.b7 hrow (by decide))).trans h.b7, (hf.block _ (lt_of_some h.b8) (tag_ne h.b8 hrow (by decide))).trans h.b8,
   ⟨cur.setIfInBounds ri (.pointer (some ⟨lb ri, 0, none⟩)), heap_setCell_same hrow, by rw [Array.size_setIfInBounds]; exact hs, fun j hj => ?_⟩, own_fr h.o1 hf (nv h.o1), own_fr h.o2 hf (nv h.o2), h.ne,
   fun j hj => by
    obtain ⟨q, cs, hc, r⟩ := h.leaf j hj
    exact ⟨q, cs, (hf.block _ (lt_of_some hc) (tag_ne hc hrow (by decide))).trans hc, r⟩, h.inj⟩
  by_cases e : j = ri
  · rw [e, getSetSame _ _ _ (by omega)]
  · rw [getSet _ _ _ _ (by omega)]; exact hr j (by omega)
/-- expLeaf = append(expLeaf, x), as the law leaves it. -/
theorem Inv.app1 (h : Inv w0 R r6 r7 r8 n lb LC m ri v1 v2 xs1 xs2 wr) {o : Obj} {v' : Value} {w2 : World} {x : Value} (ho : w2.ownsRow w0.heap.size 3 1 v' (xs1.length + 1) (xs1 ++ [x])) (hg : (wr.alloc o).grownBy w2 v1.ownBlock)
    (hat : v'.ownBlock = v1.ownBlock ∨ v'.ownBlock = some (wr.alloc o).heap.size) : Inv w0 R r6 r7 r8 n lb LC m ri v' v2 (xs1 ++ [x]) xs2 (w2.setCell ⟨r7, 0, none⟩ v') := by
  have h' := h.alloc o
  generalize wr.alloc o = wa at *
  have hf : Fr (fun k => v1.ownBlock = some k) wa w2 := Fr.of_grown hg (fun k e => e)
  have hf2 : Fr (fun k => k = r7 ∨ v1.ownBlock = some k) wa (w2.setCell ⟨r7, 0, none⟩ v') := (hf.mono (fun k _ e => .inr e)).setCell (W := r7) (.inl rfl) _ _
  have ht : ∀ {k : Nat} {c : Array Value} {s : TypeId}, wa.heap[k]? = some (.cells c s (0, 0)) → s ≠ 3 → v1.ownBlock ≠ some k := fun hk hs e => by
    obtain ⟨cur, hh⟩ := own_tag h'.o1 e
    exact tag_ne hh hk (fun q => hs q.symm) rfl
  have keep : ∀ {k : Nat} {c : Array Value} {s : TypeId}, wa.heap[k]? = some (.cells c s (0, 0)) → s ≠ 3 → k ≠ r7 → (w2.setCell ⟨r7, 0, none⟩ v').heap[k]? = some (.cells c s (0, 0)) := fun hk hs hne =>
    (hf2.block _ (lt_of_some hk) (fun x => x.elim hne (ht hk hs))).trans hk
  have b7w : w2.heap[r7]? = some (.cells #[v1] 24 (0, 0)) := (hf.block _ (lt_of_some h'.b7) (ht h'.b7 (by decide))).trans h'.b7
  have n8 : r8 ≠ r7 := fun e => h'.lo.2.2.2.2 e.symm
  have n1 : ∀ g, v'.ownBlock = some g → g ≠ r7 := fun g hgg e => by
    obtain ⟨cur, hh⟩ := own_tag ho hgg
    subst e
    exact tag_ne hh b7w (by decide) rfl
  refine ⟨h'.bel.trans (hf2.below h'.bel.size ?_), h'.lo, keep h'.b6 (by decide) (tag_ne h'.b6 h'.b7 (by decide)), ?_, keep h'.b8 (by decide) n8, ?_, ?_, ?_, ?_, fun j hj => ?_, h'.inj⟩
  · rintro k (rfl | hk)
    · exact h'.lo.2.2.1
    · exact (h'.o1.lt k hk).1
  · rw [heap_setCell_same b7w]; rfl
  · obtain ⟨cur, hrow, r⟩ := h'.row
    exact ⟨cur, keep hrow (by decide) (tag_ne hrow h'.b7 (by decide)), r⟩
  · rw [List.length_append]
    exact own_fr ho ((Fr.refl (· = r7) w2).setCell (W := r7) rfl _ _) (fun g hgg e => n1 g hgg e)
  · refine own_fr h'.o2 hf2 (fun g hgg x => ?_)
    rcases x with rfl | x
    · obtain ⟨cur, hh⟩ := own_tag h'.o2 hgg
      exact tag_ne hh h'.b7 (by decide) rfl
    · exact h'.ne g x hgg
  · intro g hgg e
    rcases hat with q | q
    · exact h'.ne g (by rw [← q]; exact hgg) e
    · rw [q] at hgg
      injection hgg with hgg
      have := (h'.o2.lt g e).2
      omega
  · obtain ⟨q, cs, hc, r⟩ := h'.leaf j hj
    exact ⟨q, cs, keep hc (by decide) (tag_ne hc h'.b7 (by decide)), r⟩
theorem Inv.app2 (h : Inv w0 R r6 r7 r8 n lb LC m ri v1 v2 xs1 xs2 wr) {o : Obj} {v' : Value} {w2 : World} {x : Value} (ho : w2.ownsRow w0.heap.size 3 1 v' (xs2.length + 1) (xs2 ++ [x])) (hg : (wr.alloc o).grownBy w2 v2.ownBlock)
    (hat : v'.ownBlock = v2.ownBlock ∨ v'.ownBlock = some (wr.alloc o).heap.size) : Inv w0 R r6 r7 r8 n lb LC m ri v1 v' xs1 (xs2 ++ [x]) (w2.setCell ⟨r8, 0, none⟩ v') := by
  have hs : Inv w0 R r6 r8 r7 n lb LC m ri v2 v1 xs2 xs1 wr := ⟨h.bel, ⟨h.lo.1, h.lo.2.1, h.lo.2.2.2.1, h.lo.2.2.1, fun e => h.lo.2.2.2.2 e.symm⟩, h.b6, h.b8, h.b7, h.row, h.o2, h.o1, fun g a b => h.ne g b a, h.leaf, h.inj⟩
  have k := hs.app1 ho hg hat
  exact ⟨k.bel, ⟨k.lo.1, k.lo.2.1, k.lo.2.2.2.1, k.lo.2.2.1, fun e => k.lo.2.2.2.2 e.symm⟩, k.b6, k.b8, k.b7, k.row, k.o2, k.o1, fun g a b => k.ne g b a, k.leaf, k.inj⟩
end
theorem off_le (cn : Nat → Nat) (hcn : ∀ i, 0 < cn i ∧ cn i ≤ 16) : ∀ i, off cn i ≤ 16 * i
  | 0 => Nat.le_refl _
  | i + 1 => by have := off_le cn hcn i; have := hcn i; simp only [off]; omega
theorem off_pos (cn : Nat → Nat) (hcn : ∀ i, 0 < cn i ∧ cn i ≤ 16) (i k : Nat) (h : ¬ (i = 0 ∧ k = 0)) : 0 < off cn i + k := by
  cases i with
  | zero => simp only [off]; omega
  | succ i => have := hcn i; simp only [off]; omega
/-- What the two lists of what is to come hold. -/
structure Exps (cn : Nat → Nat) (i k : Nat) (xs1 xs2 : List Value) : Prop where
  len1 : xs1.length = off cn i + k - 1
  len2 : xs2.length = off cn i + k - 1
  at1 : ∀ j q, ((j < i ∧ q < cn j) ∨ (j = i ∧ q < k)) → 0 < off cn j + q → xs1[off cn j + q - 1]? = some (.int .i64 j)
  at2 : ∀ j q, ((j < i ∧ q < cn j) ∨ (j = i ∧ q < k)) → 0 < off cn j + q → xs2[off cn j + q - 1]? = some (.int .i64 (place j q))
theorem getApp {xs : List Value} {n : Nat} {v x : Value} (h : xs[n]? = some v) : (xs ++ [x])[n]? = some v := by
  rw [List.getElem?_append_left (List.getElem?_eq_some_iff.1 h).1]; exact h
theorem Exps.step {cn : Nat → Nat} {i k : Nat} {xs1 xs2 : List Value} (h : Exps cn i k xs1 xs2) (h0 : 0 < off cn i + k) : Exps cn i (k + 1) (xs1 ++ [.int .i64 i]) (xs2 ++ [.int .i64 (place i k)]) := by
  refine ⟨by rw [List.length_append, h.len1]; show off cn i + k - 1 + 1 = _; omega, by rw [List.length_append, h.len2]; show off cn i + k - 1 + 1 = _; omega, fun j q hv hp => ?_, fun j q hv hp => ?_⟩
  · by_cases e : j = i ∧ q = k
    · obtain ⟨rfl, rfl⟩ := e
      rw [← h.len1]; simp
    · exact getApp (h.at1 j q (by omega) hp)
  · by_cases e : j = i ∧ q = k
    · obtain ⟨rfl, rfl⟩ := e
      rw [← h.len2]; simp
    · exact getApp (h.at2 j q (by omega) hp)
theorem Exps.first {cn : Nat → Nat} {xs1 xs2 : List Value} (h : Exps cn 0 0 xs1 xs2) : Exps cn 0 1 xs1 xs2 := by
  refine ⟨h.len1, h.len2, fun j q hv hp => ?_, fun j q hv hp => ?_⟩
  · obtain ⟨rfl, rfl⟩ : j = 0 ∧ q = 0 := by omega
    simp [off] at hp
  · obtain ⟨rfl, rfl⟩ : j = 0 ∧ q = 0 := by omega
    simp [off] at hp
theorem Exps.next {cn : Nat → Nat} {i : Nat} {xs1 xs2 : List Value} (h : Exps cn i (cn i) xs1 xs2) : Exps cn (i + 1) 0 xs1 xs2 := by
  refine ⟨h.len1, h.len2, fun j q hv hp => h.at1 j q ?_ hp, fun j q hv hp => h.at2 j q ?_ hp⟩ <;>
    (by_cases e : j = i
     · subst e; omega
     · omega)
theorem Exps.nil (cn : Nat → Nat) : Exps cn 0 0 [] [] := ⟨rfl, rfl, fun j q hv hp => by omega, fun j q hv hp => by omega⟩
def LCo (cn : Nat → Nat) (i : Nat) (lb : Nat → Nat) (j : Nat) (cs : Array Value) : Prop := LeafCs cs j (cn j) (off cn j) (nxtOf i lb j)
def LCi (cn : Nat → Nat) (i k : Nat) (lb : Nat → Nat) (j : Nat) (cs : Array Value) : Prop := (j < i → LeafCs cs j (cn j) (off cn j) (nxtOf i lb j)) ∧ (j = i → LeafCs cs i k (off cn i) none)
theorem nxtOf_next {i j : Nat} (lb : Nat → Nat) (h : j + 1 < i) : nxtOf (i + 1) lb j = nxtOf i lb j := by
  unfold nxtOf; rw [if_pos h, if_pos (by omega)]
theorem nxtOf_last (i : Nat) (lb : Nat → Nat) : nxtOf (i + 1) lb i = none := by unfold nxtOf; rw [if_neg (by omega)]
theorem nxtOf_prev (i : Nat) (lb : Nat → Nat) : nxtOf (i + 1 + 1) lb i = some ⟨lb (i + 1), 0, none⟩ := by unfold nxtOf; rw [if_pos (by omega)]
theorem some_of_lt {cs : Array Value} {n : Nat} (hs : cs.size = n) (q : Nat) (hq : q < n) : ∃ v, cs[q]? = some v := ⟨cs[q]'(by omega), Array.getElem?_eq_getElem (by omega)⟩
end Go.Proofs.Ybulkcftm

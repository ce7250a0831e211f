import Derived.Test.YbulkcftmStep
namespace Go.Proofs.Ybulkcftm
open Go.ChangeShapes Go.WideShapes Go.ChangeAt Go.RowKit
section
variable {w0 : World} {R r6 r7 r8 n : Nat} {lb : Nat → Nat} {LC : Nat → Array Value → Prop} {m ri : Nat} {v1 v2 : Value} {xs1 xs2 : List Value} {wT a b : World}
/-- Writes to blocks that are younger than wT. -/
theorem Inv.far (hT : Inv w0 R r6 r7 r8 n lb LC m ri v1 v2 xs1 xs2 wT) (h : Inv w0 R r6 r7 r8 n lb LC m ri v1 v2 xs1 xs2 a) {X : Nat → Prop} (hf : Fr X a b) (hX : ∀ k, X k → wT.heap.size ≤ k) : Inv w0 R r6 r7 r8 n lb LC m ri v1 v2 xs1 xs2 b := by
  have big : ∀ {k : Nat}, k < wT.heap.size → ¬ X k := fun hk hx => by have := hX _ hx; omega
  refine h.other hf (fun k hk => Nat.le_trans hT.bel.size (hX k hk)) (big (lt_of_some hT.b6)) (big (lt_of_some hT.b7)) (big (lt_of_some hT.b8)) ?_ (fun g hg => big (hT.o1.lt g hg).2) (fun g hg => big (hT.o2.lt g hg).2) (fun j hj => ?_)
  · obtain ⟨cur, hrow, _⟩ := hT.row
    exact big (lt_of_some hrow)
  · obtain ⟨_, cs, hc, _⟩ := hT.leaf j hj
    exact big (lt_of_some hc)
theorem fr_of_below {B : Nat} (h : Below B a b) : Fr (fun k => B ≤ k) a b := ⟨h.os, h.tape, h.output, h.size, fun k _ hx => h.block k (by omega)⟩
theorem Inv.farBelow (hT : Inv w0 R r6 r7 r8 n lb LC m ri v1 v2 xs1 xs2 wT) (h : Inv w0 R r6 r7 r8 n lb LC m ri v1 v2 xs1 xs2 a) {B : Nat} (hb : Below B a b) (hB : wT.heap.size ≤ B) : Inv w0 R r6 r7 r8 n lb LC m ri v1 v2 xs1 xs2 b :=
  hT.far h (fr_of_below hb) (fun _ hk => Nat.le_trans hB hk)
end
section
variable {w0 : World} {R r6 r7 r8 n : Nat} {lb cn : Nat → Nat} {v1 v2 : Value} {xs1 xs2 : List Value} {wT wr : World}
theorem Inv.chain (h : Inv w0 R r6 r7 r8 n lb (LCo cn n lb) n n v1 v2 xs1 xs2 wr) : Chain wr n lb cn := fun i hi => by
  obtain ⟨_, cs, hc, hl⟩ := h.leaf i hi
  exact LeafCs.at hl hc
/-- What the first walk over the spans holds before its t-th call. -/
def St7 (w0 : World) (R r6 r7 r8 n : Nat) (lb cn : Nat → Nat) (v1 v2 : Value) (xs1 xs2 : List Value) (rt rj ro tot : Nat) (t : Nat) (w : World) : Prop :=
  Inv w0 R r6 r7 r8 n lb (LCo cn n lb) n n v1 v2 xs1 xs2 w ∧ w.heap[rj]? = some (.cells #[.int .i64 ((t - 1 : Nat) : Int)] 3 (0, 0)) ∧ w.cell? ⟨rt, 0, none⟩ = some (.int .i64 tot) ∧ w.cell? ⟨ro, 0, none⟩ = some (.bool true)
theorem St7.keep {rt rj ro tot t B : Nat} {a b : World} (hT : Inv w0 R r6 r7 r8 n lb (LCo cn n lb) n n v1 v2 xs1 xs2 wT) (h : St7 w0 R r6 r7 r8 n lb cn v1 v2 xs1 xs2 rt rj ro tot t a) (hb : Below B a b) (hB : wT.heap.size ≤ B) (h1 : rt < B) (h2 : rj < B) (h3 : ro < B) : St7 w0 R r6 r7 r8 n lb cn v1 v2 xs1 xs2 rt rj ro tot t b :=
  ⟨hT.farBelow h.1 hb hB, (hb.block _ h2).trans h.2.1, (World.cell?_of_block (hb.block rt h1)).trans h.2.2.1, (World.cell?_of_block (hb.block ro h3)).trans h.2.2.2⟩
theorem St7.call {rt rj ro tot : Nat} (hcn : ∀ i, 0 < cn i ∧ cn i ≤ 16) (hE : Exps cn n 0 xs1 xs2) (htot : tot = xs1.length) (hn : n ≤ 512) (hT : Inv w0 R r6 r7 r8 n lb (LCo cn n lb) n n v1 v2 xs1 xs2 wT) (hj : wT.heap.size ≤ rj) (hne1 : rt ≠ rj) (hne2 : ro ≠ rj)
    (i k : Nat) (w : World) (hi : i < n) (hk : k < cn i) (h0 : 0 < off cn i + k) (h : St7 w0 R r6 r7 r8 n lb cn v1 v2 xs1 xs2 rt rj ro tot (off cn i + k) w) :
    Calls Yba.prog 7 #[.agg #[.pointer (some ⟨lb i, 0, none⟩), .int .i64 (place i k)], .pointer (some ⟨lb i, 25 + place i k * 11, none⟩), .pointer (some ⟨rj, 0, none⟩), .pointer (some ⟨rt, 0, none⟩), .pointer (some ⟨ro, 0, none⟩), .pointer (some ⟨r6, 0, none⟩), .pointer (some ⟨r7, 0, none⟩), .pointer (some ⟨r8, 0, none⟩)] w
      fun e w' => e = .returned (.bool true) ∧ St7 w0 R r6 r7 r8 n lb cn v1 v2 xs1 xs2 rt rj ro tot (off cn i + k + 1) w' ∧ Fr (· = rj) w w' := by
  obtain ⟨hI, c1, c2, c3⟩ := h
  obtain ⟨s, hs⟩ : ∃ s, off cn i + k = s + 1 := ⟨off cn i + k - 1, by omega⟩
  have a1 := hE.at1 i k (.inl ⟨hi, hk⟩) h0
  have a2 := hE.at2 i k (.inl ⟨hi, hk⟩) h0
  rw [hs] at a1 a2 c1
  have hoff := off_le cn hcn n
  have l1 := hE.len1
  have l2 := hE.len2
  have hs1 : s < xs1.length := by have := (List.getElem?_eq_some_iff.1 a1).1; simpa using this
  obtain ⟨_, cs, hblk, hL⟩ := hI.leaf i hi
  have hL' : LeafCs cs i (cn i) (off cn i) (nxtOf n lb i) := hL
  obtain ⟨cur, hrow, hrs, hrr⟩ := hI.row
  have q3 := hL'.seq k hk h0
  have q9 := hL'.del k hk h0
  rw [hs] at q3 q9
  have hcast : ((s + 1 : Nat) : Int) = (s : Int) + 1 := by omega
  rw [hcast] at q3 q9
  have o1 := hI.o1
  have o2 := hI.o2
  rcases o1.2 with ⟨_, q⟩ | ⟨g1, cap1, cur1, hv1, _⟩
  · omega
  rcases o2.2 with ⟨_, q⟩ | ⟨g2, cap2, cur2, hv2, _⟩
  · omega
  have e1 := o1.cells (g := g1) (by rw [hv1]; rfl) s (.int .i64 i) (by simpa using a1)
  have e2 := o2.cells (g := g2) (by rw [hv2]; rfl) s (.int .i64 (place i k)) (by simpa using a2)
  rw [Addr.add_mid, Nat.zero_add] at e1 e2
  have b7 := cell_of (j := 0) hI.b7 rfl
  have b8 := cell_of (j := 0) hI.b8 rfl
  have hv1' : v1 = .slice (some ⟨g1, 0, none⟩) tot cap1 := by rw [hv1, htot]
  have hv2' : v2 = .slice (some ⟨g2, 0, none⟩) tot cap2 := by rw [hv2, htot, l1, ← l2]
  refine (clos7 w rj rt ro r6 r7 r8 R g1 g2 (lb i) i s (place i k) n tot cap1 cap2 (by omega) (by omega) hi (place_lt i k) c1 c2 (cell_of (j := 0) hI.b6 rfl) (cell_of hrow (hrr i hi)) (by rw [b7]; exact congrArg some hv1') e1 (by rw [b8]; exact congrArg some hv2') e2 (cell_of hblk q3) (cell_of hblk q9)).mono ?_
  rintro e w' ⟨rfl, hj', hf⟩
  refine ⟨rfl, ⟨hT.far hI hf (fun k hk => by rw [hk]; exact hj), ?_, hf.cell c2 hne1, hf.cell c3 hne2⟩, hf⟩
  rw [hj', hs]; rfl
/-- What the second walk holds. -/
def St8 (w0 : World) (R r6 r7 r8 n : Nat) (lb cn : Nat → Nat) (v1 v2 : Value) (xs1 xs2 : List Value) (rc rm mm : Nat) (t : Nat) (w : World) : Prop :=
  Inv w0 R r6 r7 r8 n lb (LCo cn n lb) n n v1 v2 xs1 xs2 w ∧ w.heap[rc]? = some (.cells #[.int .i64 ((t - 1 : Nat) : Int)] 3 (0, 0)) ∧ w.cell? ⟨rm, 0, none⟩ = some (.int .i64 mm)
theorem St8.keep {rc rm mm t B : Nat} {a b : World} (hT : Inv w0 R r6 r7 r8 n lb (LCo cn n lb) n n v1 v2 xs1 xs2 wT) (h : St8 w0 R r6 r7 r8 n lb cn v1 v2 xs1 xs2 rc rm mm t a) (hb : Below B a b) (hB : wT.heap.size ≤ B) (h1 : rc < B) (h2 : rm < B) : St8 w0 R r6 r7 r8 n lb cn v1 v2 xs1 xs2 rc rm mm t b :=
  ⟨hT.farBelow h.1 hb hB, (hb.block _ h1).trans h.2.1, (World.cell?_of_block (hb.block rm h2)).trans h.2.2⟩
theorem St8.call {rc rm mm : Nat} (hcn : ∀ i, 0 < cn i ∧ cn i ≤ 16) (hn : n ≤ 512) (hT : Inv w0 R r6 r7 r8 n lb (LCo cn n lb) n n v1 v2 xs1 xs2 wT) (hj : wT.heap.size ≤ rc) (hne1 : rm ≠ rc)
    (i k : Nat) (w : World) (hi : i < n) (hk : k < cn i) (h0 : 0 < off cn i + k) (h : St8 w0 R r6 r7 r8 n lb cn v1 v2 xs1 xs2 rc rm mm (off cn i + k) w) :
    Calls Yba.prog 8 #[.agg #[.pointer (some ⟨lb i, 0, none⟩), .int .i64 (place i k)], .pointer (some ⟨lb i, 25 + place i k * 11, none⟩), .pointer (some ⟨rc, 0, none⟩), .pointer (some ⟨rm, 0, none⟩)] w
      fun e w' => e = .returned (.bool (decide (off cn i + k < mm))) ∧ St8 w0 R r6 r7 r8 n lb cn v1 v2 xs1 xs2 rc rm mm (off cn i + k + 1) w' ∧ Fr (· = rc) w w' := by
  obtain ⟨hI, c1, c2⟩ := h
  obtain ⟨s, hs⟩ : ∃ s, off cn i + k = s + 1 := ⟨off cn i + k - 1, by omega⟩
  rw [hs] at c1
  have hoff := off_le cn hcn i
  have hci := hcn i
  refine (clos8 w rc rm (lb i) (place i k) (25 + place i k * 11) s mm (by omega) (fun e => hne1 e.symm) c1 c2).mono ?_
  rintro e w' ⟨rfl, hj', hf⟩
  refine ⟨by rw [hs], ⟨hT.far hI hf (fun k hk => by rw [hk]; exact hj), ?_, hf.cell c2 hne1⟩, hf⟩
  rw [hj', hs]; rfl
end
theorem spans_make (w : World) (S : Nat) :
    Calls Yba.prog 6 #[.pointer (some ⟨S, 0, none⟩)] w fun e w' => e = .returned (.func (.func 16) #[] #[.pointer (some ⟨w.heap.size, 0, none⟩)]) ∧ w' = w.alloc (.cells #[.pointer (some ⟨S, 0, none⟩)] 30) := by
  have hmf : ∀ (fn : Fn) (first cap : Array Value) (w : World), (Instr.makeFunc fn first cap).run Yba.prog w = .ok (.func fn first cap) w := fun _ _ _ _ => rfl
  go_enter Yba.func6, Yba.ntmps6
  go_wp2
  go_ret
  exact ⟨rfl, rfl⟩
theorem alloc3 (w : World) (o0 o1 o2 : Obj) : Below w.heap.size w (((w.alloc o0).alloc o1).alloc o2) ∧ (((w.alloc o0).alloc o1).alloc o2).heap.size = w.heap.size + 3 ∧ (((w.alloc o0).alloc o1).alloc o2).heap[w.heap.size]? = some o0 ∧ (((w.alloc o0).alloc o1).alloc o2).heap[w.heap.size + 1]? = some o1 ∧ (((w.alloc o0).alloc o1).alloc o2).heap[w.heap.size + 1 + 1]? = some o2 := by
  refine ⟨((below_alloc _ _).trans ((below_alloc _ _).mono (by rw [size_alloc]; omega))).trans ((below_alloc _ _).mono (by rw [size_alloc, size_alloc]; omega)), by rw [size_alloc, size_alloc, size_alloc], ?_, ?_, ?_⟩
  · rw [heap_alloc, if_neg (by rw [size_alloc, size_alloc]; omega), heap_alloc, if_neg (by rw [size_alloc]; omega), heap_alloc, if_pos rfl]
  · rw [heap_alloc, if_neg (by rw [size_alloc, size_alloc]; omega), heap_alloc, if_pos (by rw [size_alloc])]
  · rw [heap_alloc, if_pos (by rw [size_alloc, size_alloc])]
theorem alloc4 (w : World) (o0 o1 o2 o3 : Obj) : Below w.heap.size w ((((w.alloc o0).alloc o1).alloc o2).alloc o3) ∧ ((((w.alloc o0).alloc o1).alloc o2).alloc o3).heap.size = w.heap.size + 4 ∧ ((((w.alloc o0).alloc o1).alloc o2).alloc o3).heap[w.heap.size]? = some o0 ∧ ((((w.alloc o0).alloc o1).alloc o2).alloc o3).heap[w.heap.size + 1]? = some o1 ∧ ((((w.alloc o0).alloc o1).alloc o2).alloc o3).heap[w.heap.size + 1 + 1]? = some o2 ∧ ((((w.alloc o0).alloc o1).alloc o2).alloc o3).heap[w.heap.size + 1 + 1 + 1]? = some o3 := by
  obtain ⟨b, s, h0, h1, h2⟩ := alloc3 w o0 o1 o2
  refine ⟨b.trans ((below_alloc _ _).mono (by omega)), by rw [size_alloc, s], ?_, ?_, ?_, ?_⟩
  · rw [heap_alloc, if_neg (by omega)]; exact h0
  · rw [heap_alloc, if_neg (by omega)]; exact h1
  · rw [heap_alloc, if_neg (by omega)]; exact h2
  · rw [heap_alloc, if_pos (by omega)]
/-- How many calls the second walk makes. -/
theorem stops_at {T m off tot : Nat} (htot : tot = off - 1) (h1 : 1 ≤ T) (h2 : T ≤ off) (h3 : ∀ t, 1 ≤ t → t + 1 < T → decide (t < m + 1) = true) (h4 : T < off → 2 ≤ T ∧ decide (T - 1 < m + 1) = false) : T - 1 = if m + 1 < tot then m + 1 else tot := by
  by_cases hT : T < off
  · obtain ⟨a, b⟩ := h4 hT
    have b' : ¬ (T - 1 < m + 1) := by simpa using b
    by_cases h5 : T = 2
    · rw [if_pos (by omega)]; omega
    · have h6 := h3 (T - 2) (by omega) (by omega)
      have h6' : T - 2 < m + 1 := by simpa using h6
      rw [if_pos (by omega)]; omega
  · by_cases h7 : m + 1 < tot
    · have h6 := h3 (T - 2) (by omega) (by omega)
      have h6' : T - 2 < m + 1 := by simpa using h6
      omega
    · rw [if_neg h7]; omega
/-- The zero sequence. -/
noncomputable def Z50 : Array Value := match (Yba.prog.info? 50).bind (·.zero) with | some (.agg cs) => cs | _ => #[]
theorem Z50_size : Nat.ble 5 Z50.size = true := by kernel_rfl
theorem Z50_some : (Yba.prog.info? 50).bind (·.zero) = some (.agg Z50) := by kernel_rfl
theorem run_zero50 (w : World) : (zeroValue 50).run Yba.prog w = .ok (.agg Z50) w := by
  have h := Z50_some
  cases hi : Yba.prog.info? 50 with
  | none => rw [hi] at h; cases h
  | some i =>
    rw [hi] at h
    have hz : i.zero = some (.agg Z50) := h
    simp [zeroValue, typeInfo, hi, hz]
end Go.Proofs.Ybulkcftm

import Derived.Test.YbulkcftmInv
import Derived.Deep.MidRow
namespace Go.Proofs.Ybulkcftm
open Go.ChangeShapes Go.WideShapes Go.ChangeAt Go.RowKit
theorem mask_or16 : ∀ i, i < 16 → ∀ k, k < 16 → bits BinOp.or IntKind.u16 (mask i k : Int) (IntKind.u16.wrap (2 ^ place i k)) = (mask i (k + 1) : Int) := by decide +kernel
theorem mask_or (i k : Nat) (hk : k < 16) : bits BinOp.or IntKind.u16 (mask i k : Int) (IntKind.u16.wrap (2 ^ place i k)) = (mask i (k + 1) : Int) := by
  have h := mask_or16 (i % 16) (Nat.mod_lt _ (by decide)) k hk
  rwa [mask_mod, mask_mod, place_mod] at h
theorem z36 : (Yba.prog.info? 36).map (·.size) = some 11 := by kernel_rfl
/-- The cells of a span numbered sq + 1. -/
def spanV (sq : Nat) : Array Value := #[.int .u32 0, .int .u64 0, .int .u32 0, .int .u64 ((sq : Int) + 1), .int .u32 0, .int .u64 0, .int .u32 0, .int .u64 0, .slice none 0 0, .bool (((sq : Int) + 1) % 3 == 0), .bool false]
theorem spanV_one (sq : Nat) : (spanV sq).all (·.oneCell') = true := by simp [spanV, Value.oneCell']
theorem span_there {w : World} {B q : Nat} {cs : Array Value} (h : w.heap[B]? = some (.cells cs 39 (0, 0))) (hq : q + 11 ≤ cs.size) : w.there B q 11 := fun j hj =>
  ⟨by rw [cell_of (v := cs[q + j]'(by omega)) h (Array.getElem?_eq_getElem (by omega))]; rfl, free_of h⟩
theorem span_heap {w : World} {B q : Nat} {cs : Array Value} (h : w.heap[B]? = some (.cells cs 39 (0, 0))) (x0 x1 x2 x3 x4 x5 x6 x7 x8 x9 x10 : Value) :
    (w.setCells B q [x0, x1, x2, x3, x4, x5, x6, x7, x8, x9, x10]).heap[B]? = some (.cells (setSpan cs q x0 x1 x2 x3 x4 x5 x6 x7 x8 x9 x10) 39 (0, 0)) :=
  heap_setCell_same (heap_setCell_same (heap_setCell_same (heap_setCell_same (heap_setCell_same (heap_setCell_same (heap_setCell_same (heap_setCell_same (heap_setCell_same (heap_setCell_same (heap_setCell_same h))))))))))
theorem span_fr (B : Nat) : ∀ (vs : List Value) (q : Nat) (w0 w : World), Fr (· = B) w0 w → Fr (· = B) w0 (w.setCells B q vs)
  | [], _, _, _, h => h
  | _ :: r, q, w0, _, h => span_fr B r (q + 1) w0 _ (h.setCell (W := B) rfl _ _)
theorem news_one (w : World) (x : Value) (j : Nat) (u : Value) (h : [x][j]? = some u) : (w.alloc (.cells #[x] 3)).cell? ((⟨w.heap.size, 0, none⟩ : Addr).add j) = some u := by
  match j, h with
  | 0, h =>
    simp at h
    subst h
    rw [Addr.add_mid]
    exact cell_of (cs := #[x]) (t := 3) (by rw [heap_alloc, if_pos rfl]) rfl
theorem one_int (k : IntKind) (x : Int) : ∀ u ∈ [Value.int k x], u.oneCell' = true := by
  intro u hu
  simp at hu
  subst hu
  rfl
theorem own_slice {w : World} {base : Nat} {e : TypeId} {size n : Nat} {v : Value} {xs : List Value} (h : w.ownsRow base e size v n xs) : ∃ a c, v = .slice a n c := by
  rcases h.2 with ⟨rfl, rfl⟩ | ⟨g, cap, cur, rfl, _⟩
  · exact ⟨_, _, rfl⟩
  · exact ⟨_, _, rfl⟩
section
variable {w0 : World} {R r6 r7 r8 n : Nat} {lb : Nat → Nat} {LC LC' : Nat → Array Value → Prop} {m ri : Nat} {v1 v2 : Value} {xs1 xs2 : List Value} {wr w2 : World}
theorem Inv.b7_grown (h : Inv w0 R r6 r7 r8 n lb LC m ri v1 v2 xs1 xs2 wr) {o : Obj} (hg : (wr.alloc o).grownBy w2 v1.ownBlock) : w2.heap[r7]? = some (.cells #[v1] 24 (0, 0)) ∧ w2.heap[r8]? = some (.cells #[v2] 24 (0, 0)) := by
  have h' := h.alloc o
  have ht : ∀ {k : Nat} {c : Array Value} {s : TypeId}, (wr.alloc o).heap[k]? = some (.cells c s (0, 0)) → s ≠ 3 → some k ≠ v1.ownBlock := fun hk hs e => by
    obtain ⟨cur, hh⟩ := own_tag h'.o1 e.symm
    exact tag_ne hh hk (fun q => hs q.symm) rfl
  exact ⟨(hg.block _ (lt_of_some h'.b7) (ht h'.b7 (by decide))).trans h'.b7, (hg.block _ (lt_of_some h'.b8) (ht h'.b8 (by decide))).trans h'.b8⟩
theorem Inv.b8_grown (h : Inv w0 R r6 r7 r8 n lb LC m ri v1 v2 xs1 xs2 wr) {o : Obj} (hg : (wr.alloc o).grownBy w2 v2.ownBlock) : w2.heap[r8]? = some (.cells #[v2] 24 (0, 0)) := by
  have h' := h.alloc o
  have ht : ∀ {k : Nat} {c : Array Value} {s : TypeId}, (wr.alloc o).heap[k]? = some (.cells c s (0, 0)) → s ≠ 3 → some k ≠ v2.ownBlock := fun hk hs e => by
    obtain ⟨cur, hh⟩ := own_tag h'.o2 e.symm
    exact tag_ne hh hk (fun q => hs q.symm) rfl
  exact (hg.block _ (lt_of_some h'.b8) (ht h'.b8 (by decide))).trans h'.b8
end
end Go.Proofs.Ybulkcftm

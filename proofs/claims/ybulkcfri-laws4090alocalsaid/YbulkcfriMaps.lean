import Derived.Test.YbulkcfriRows
import Derived.WalkKit
import Derived.ProofKit
import Derived.Maps.OwnSet
import Derived.Deep.AppendLies
/-! Maps of whatever element type, told by a plain function from keys to elements. -/
namespace Go.Proofs.Ybulkcfri
open Go.ChangeShapes Go.WideShapes Go.ChangeAt Go.RowKit Go.MapKept
open Go.Maps (Keyed)
open Go.ChangeMaps (setBlock heap_setBlock_same)

/-- Block r of w is a map of n entries that holds f. -/
def MapIs (P : Program) (K : TypeId) (w : World) (r : Nat) (f : Value → Option Value) (n : Nat) : Prop :=
  ∃ es clock, w.heap[r]? = some (.map es clock) ∧ (∀ e ∈ es.toList, ∃ l, keyOf P K e.key = some l) ∧ es.toList.Pairwise (fun a b => a.key ≠ b.key) ∧
    es.toList.Pairwise (fun a b => a.born ≠ b.born) ∧ (∀ e ∈ es.toList, e.born < clock) ∧ (∀ k v, f k = some v ↔ ∃ e ∈ es.toList, e.key = k ∧ e.val = v) ∧ es.size = n

theorem MapIs.lt {P : Program} {K : TypeId} {w : World} {r n : Nat} {f : Value → Option Value} (h : MapIs P K w r f n) : r < w.heap.size := by
  obtain ⟨es, clock, hh, _⟩ := h
  exact (Array.getElem?_eq_some_iff.1 hh).1
theorem MapIs.of_block {P : Program} {K : TypeId} {w w' : World} {r n : Nat} {f : Value → Option Value} (h : MapIs P K w r f n) (hb : w'.heap[r]? = w.heap[r]?) : MapIs P K w' r f n := by
  obtain ⟨es, clock, hh, hr⟩ := h
  exact ⟨es, clock, hb.trans hh, hr⟩
theorem MapIs.drew {P : Program} {K : TypeId} {w : World} {r n : Nat} {f : Value → Option Value} (h : MapIs P K w r f n) : MapIs P K w.drew r f n := h.of_block rfl
theorem MapIs.alloc {P : Program} {K : TypeId} {w : World} {r n : Nat} {f : Value → Option Value} (h : MapIs P K w r f n) (o : Obj) : MapIs P K (w.alloc o) r f n :=
  h.of_block (Below.heap_alloc w o r h.lt)
theorem MapIs.setCell {P : Program} {K : TypeId} {w : World} {r n : Nat} {f : Value → Option Value} (h : MapIs P K w r f n) (a : Addr) (v : Value) : MapIs P K (w.setCell a v) r f n := by
  refine h.of_block ?_
  obtain ⟨es, clock, hh, _⟩ := h
  by_cases hr : a.block = r
  · subst hr; simp [World.setCell, Array.getElem?_modify, hh]
  · simp [World.setCell, Array.getElem?_modify, hr]
theorem MapIs.grown {P : Program} {K : TypeId} {w w' : World} {r n : Nat} {f : Value → Option Value} {row : Option Nat} (h : MapIs P K w r f n) (hg : w.grownBy w' row) (hne : some r ≠ row) : MapIs P K w' r f n :=
  h.of_block (hg.block r h.lt hne)
theorem MapIs.below {P : Program} {K : TypeId} {B : Nat} {w w' : World} {r n : Nat} {f : Value → Option Value} (h : MapIs P K w r f n) (hb : Below B w w') (hr : r < B) : MapIs P K w' r f n := h.of_block (hb.block r hr)
theorem MapIs.empty {P : Program} (K : TypeId) {w : World} {r clock : Nat} (h : w.heap[r]? = some (.map #[] clock)) : MapIs P K w r (fun _ => none) 0 :=
  ⟨#[], clock, h, by simp, by simp, by simp, by simp, by simp, rfl⟩

section
variable {P : Program} {K E T : TypeId} {w : World} {r n : Nat} {f : Value → Option Value}

theorem MapIs.keyed (h : MapIs P K w r f n) {k v : Value} (hk : f k = some v) : ∃ l, keyOf P K k = some l := by
  obtain ⟨es, clock, hh, hkeys, _, _, _, hsem, _⟩ := h
  obtain ⟨e, he, rfl, _⟩ := (hsem k v).1 hk
  exact hkeys e he
theorem sem_none {es : Array MapEntry} (hsem : ∀ k v, f k = some v ↔ ∃ e ∈ es.toList, e.key = k ∧ e.val = v) {k : Value} (h : ∀ e ∈ es.toList, e.key ≠ k) : f k = none := by
  cases hf : f k with
  | none => rfl
  | some v => obtain ⟨e, he, hk, _⟩ := (hsem k v).1 hf; exact absurd hk (h e he)

/-- 'm[k]', 'v, ok := m[k]' -/
theorem MapIs.lookup (law : Keyed P K) (hu : P.underlying T = some (.map K E)) {z : Value} (hz : (zeroValue E).run P w = .ok z w) (h : MapIs P K w r f n) {k : Value} {l : Lit} (hk : keyOf P K k = some l) (c : Bool) :
    (Instr.lookup T (.map (some r)) k c).run P w = .ok (if c then .tuple #[(f k).getD z, .bool (f k).isSome] else (f k).getD z) w := by
  obtain ⟨es, clock, hh, hkeys, _, _, _, hsem, _⟩ := h
  have hc := law.check w es.isEmpty hk
  have hg : (getObj r).run P w = .ok (.map es clock) w := by simp [getObj, Sem.run, hh]
  rcases law.find w hk es.toList hkeys with ⟨hf, hno⟩ | ⟨j, e, hf, hj, hek⟩
  · rw [sem_none hsem hno]
    simp [Instr.lookup, run_underlying hu, hg, hc, hf, hz]
  · have : f k = some e.val := (hsem k e.val).2 ⟨e, List.mem_of_getElem? hj, hek, rfl⟩
    rw [this]
    simp [Instr.lookup, run_underlying hu, hg, hc, hf]

theorem lookup_nil (law : Keyed P K) (hu : P.underlying T = some (.map K E)) {z : Value} (hz : (zeroValue E).run P w = .ok z w) {k : Value} {l : Lit} (hk : keyOf P K k = some l) (c : Bool) :
    (Instr.lookup T (.map none) k c).run P w = .ok (if c then .tuple #[z, .bool false] else z) w := by
  have hc := law.check w true hk
  have hf : (Instr.findKey K k []).run P w = .ok none w := by
    rcases law.find w hk [] (by simp) with ⟨hf, _⟩ | ⟨j, e, _, hj, _⟩
    · exact hf
    · simp at hj
  simp [Instr.lookup, run_underlying hu, hc, hf, hz]

/-- 'len(m)' -/
theorem MapIs.len (hu : P.underlying T = some (.map K E)) (h : MapIs P K w r f n) (ty : TypeId) : (Builtin.len_ #[T] ty #[.map (some r)]).run P w = .ok (.int .i64 n) w := by
  obtain ⟨es, clock, hh, _, _, _, _, _, hs⟩ := h
  have hg : (getObj r).run P w = .ok (.map es clock) w := by simp [getObj, Sem.run, hh]
  simp [Builtin.len_, run_underlying hu, hg, hs, goInt]

theorem grown_setBlock (w : World) (r : Nat) (o : Obj) : w.grownBy (setBlock w r o) (some r) := by
  refine ⟨rfl, rfl, rfl, by simp [setBlock], fun k hk hne => ?_⟩
  have : k ≠ r := fun e => hne (by rw [e])
  simp [setBlock, Ne.symm this]

theorem heap_setBlock (hr : r < w.heap.size) (o : Obj) : (setBlock w r o).heap[r]? = some o := by
  simp [setBlock, hr]

theorem mem_modify_of {es : Array MapEntry} {j : Nat} {e : MapEntry} (hj : es.toList[j]? = some e) (g : MapEntry → MapEntry) (x : MapEntry) :
    x ∈ (es.modify j g).toList → x = g e ∨ ∃ i, i ≠ j ∧ es.toList[i]? = some x := by
  intro hx
  obtain ⟨i, hi⟩ := List.mem_iff_getElem?.1 hx
  rw [Array.getElem?_toList, Array.getElem?_modify] at hi
  by_cases hij : j = i
  · subst hij
    rw [Array.getElem?_toList] at hj
    simp [hj] at hi
    exact .inl hi.symm
  · simp [hij] at hi
    exact .inr ⟨i, Ne.symm hij, by rw [Array.getElem?_toList]; exact hi⟩
theorem pairwise_get {α : Type} {R : α → α → Prop} (hsym : ∀ a b, R a b → R b a) {l : List α} (h : l.Pairwise R) {i j : Nat} (hij : i ≠ j) {a b : α} (ha : l[i]? = some a) (hb : l[j]? = some b) : R a b := by
  rw [List.pairwise_iff_getElem] at h
  obtain ⟨hi, rfl⟩ := List.getElem?_eq_some_iff.1 ha
  obtain ⟨hj, rfl⟩ := List.getElem?_eq_some_iff.1 hb
  rcases Nat.lt_or_gt_of_ne hij with h1 | h1
  · exact h i j hi hj h1
  · exact hsym _ _ (h j i hj hi h1)
theorem pairwise_modify {α : Type} (R : α → α → Prop) (hsym : ∀ a b, R a b → R b a) {es : Array α} {j : Nat} {e : α} (hj : es.toList[j]? = some e) (g : α → α) (h : es.toList.Pairwise R)
    (hg : ∀ x, R x e → R x (g e)) : (es.modify j g).toList.Pairwise R := by
  rw [List.pairwise_iff_getElem]
  intro a b ha hb hab
  have h1 : (es.modify j g)[a]? = some ((es.modify j g).toList[a]) := by rw [← Array.getElem?_toList]; exact List.getElem?_eq_getElem ha
  have h2 : (es.modify j g)[b]? = some ((es.modify j g).toList[b]) := by rw [← Array.getElem?_toList]; exact List.getElem?_eq_getElem hb
  generalize (es.modify j g).toList[a] = x at h1 ⊢
  generalize (es.modify j g).toList[b] = y at h2 ⊢
  rw [Array.getElem?_modify] at h1 h2
  rw [Array.getElem?_toList] at hj
  by_cases hja : j = a
  · subst hja
    have hjb : j ≠ b := by omega
    simp [hj] at h1
    simp [hjb] at h2
    subst h1
    exact hsym _ _ (hg _ (pairwise_get hsym h (Ne.symm hjb) (by rw [Array.getElem?_toList]; exact h2) (by rw [Array.getElem?_toList]; exact hj)))
  · simp [hja] at h1
    by_cases hjb : j = b
    · subst hjb
      simp [hj] at h2
      subst h2
      exact hg _ (pairwise_get hsym h (Ne.symm hja) (by rw [Array.getElem?_toList]; exact h1) (by rw [Array.getElem?_toList]; exact hj))
    · simp [hjb] at h2
      exact pairwise_get (i := a) (j := b) hsym h (by omega) (by rw [Array.getElem?_toList]; exact h1) (by rw [Array.getElem?_toList]; exact h2)

/-- The block with one entry more. -/
theorem MapIs.pushed {o : Obj} (hh : w.heap[r]? = some o) {es : Array MapEntry} {clock : Nat} (hkeys : ∀ e ∈ es.toList, ∃ l, keyOf P K e.key = some l) (huniq : es.toList.Pairwise (fun a b => a.key ≠ b.key))
    (hborn : es.toList.Pairwise (fun a b => a.born ≠ b.born)) (hlt : ∀ e ∈ es.toList, e.born < clock) (hsem : ∀ k v, f k = some v ↔ ∃ e ∈ es.toList, e.key = k ∧ e.val = v) (hs : es.size = n)
    {k : Value} {l : Lit} (hk : keyOf P K k = some l) (v : Value) (hno : ∀ e ∈ es.toList, e.key ≠ k) :
    ∃ g, MapIs P K (setBlock w r (.map (es.push { key := k, val := v, born := clock }) (clock + 1))) r g (n + 1) ∧ g k = some v ∧ ∀ x, x ≠ k → g x = f x := by
  classical
  have hr : r < w.heap.size := (Array.getElem?_eq_some_iff.1 hh).1
  refine ⟨fun x => if x = k then some v else f x, ⟨_, _, heap_setBlock hr _, ?_, ?_, ?_, ?_, ?_, by simp [hs]⟩, by simp, fun x hx => by simp [hx]⟩
  · intro e he
    simp at he
    rcases he with he | rfl
    · exact hkeys e (by simpa using he)
    · exact ⟨l, hk⟩
  · rw [Array.toList_push, List.pairwise_append]
    refine ⟨huniq, by simp, fun a ha b hb => ?_⟩
    simp at hb; subst hb
    exact hno a ha
  · rw [Array.toList_push, List.pairwise_append]
    refine ⟨hborn, by simp, fun a ha b hb => ?_⟩
    simp at hb; subst hb
    have := hlt a ha
    simp; omega
  · intro e he
    simp at he
    rcases he with he | rfl
    · have := hlt e (by simpa using he); omega
    · simp
  · intro x u
    simp only [Array.toList_push, List.mem_append, List.mem_singleton]
    by_cases hx : x = k
    · subst hx
      simp only [if_true]
      constructor
      · intro h; cases h; exact ⟨_, .inr rfl, rfl, rfl⟩
      · rintro ⟨e, he | rfl, h1, h2⟩
        · exact absurd h1 (hno e he)
        · rw [← h2]
    · simp only [hx, if_false]
      rw [hsem]
      constructor
      · rintro ⟨e, he, h1, h2⟩; exact ⟨e, .inl he, h1, h2⟩
      · rintro ⟨e, he | rfl, h1, h2⟩
        · exact ⟨e, he, h1, h2⟩
        · exact absurd h1.symm hx

/-- The block with one entry's element turned. -/
theorem MapIs.turned {o : Obj} (hh : w.heap[r]? = some o) {es : Array MapEntry} {clock : Nat} (hkeys : ∀ e ∈ es.toList, ∃ l, keyOf P K e.key = some l) (huniq : es.toList.Pairwise (fun a b => a.key ≠ b.key))
    (hborn : es.toList.Pairwise (fun a b => a.born ≠ b.born)) (hlt : ∀ e ∈ es.toList, e.born < clock) (hsem : ∀ k v, f k = some v ↔ ∃ e ∈ es.toList, e.key = k ∧ e.val = v) (hs : es.size = n)
    {j : Nat} {e : MapEntry} (hj : es.toList[j]? = some e) (v : Value) (h : MapEntry → MapEntry) (hh1 : (h e).key = e.key) (hh2 : (h e).born = e.born) (hh3 : (h e).val = v) :
    ∃ g, MapIs P K (setBlock w r (.map (es.modify j h) clock)) r g n ∧ g e.key = some v ∧ ∀ x, x ≠ e.key → g x = f x := by
  classical
  have hr : r < w.heap.size := (Array.getElem?_eq_some_iff.1 hh).1
  have hmem : e ∈ es.toList := List.mem_of_getElem? hj
  have hin : h e ∈ (es.modify j h).toList := by
    rw [List.mem_iff_getElem?]
    refine ⟨j, ?_⟩
    rw [Array.getElem?_toList] at hj ⊢
    simp [Array.getElem?_modify, hj]
  have hkeep : ∀ i x, i ≠ j → es.toList[i]? = some x → x ∈ (es.modify j h).toList := by
    intro i x hij hx
    rw [List.mem_iff_getElem?]
    refine ⟨i, ?_⟩
    rw [Array.getElem?_toList] at hx ⊢
    simp [Array.getElem?_modify, Ne.symm hij, hx]
  refine ⟨fun x => if x = e.key then some v else f x, ⟨_, _, heap_setBlock hr _, ?_, ?_, ?_, ?_, ?_, by simp [hs]⟩, by simp, fun x hx => by simp [hx]⟩
  · intro x hx
    rcases mem_modify_of hj h x hx with rfl | ⟨i, _, hi⟩
    · rw [hh1]; exact hkeys e hmem
    · exact hkeys x (List.mem_of_getElem? hi)
  · exact pairwise_modify (fun a b => a.key ≠ b.key) (fun a b hab => Ne.symm hab) hj h huniq (fun x hx => by rw [hh1]; exact hx)
  · exact pairwise_modify (fun a b => a.born ≠ b.born) (fun a b hab => Ne.symm hab) hj h hborn (fun x hx => by rw [hh2]; exact hx)
  · intro x hx
    rcases mem_modify_of hj h x hx with rfl | ⟨i, _, hi⟩
    · rw [hh2]; exact hlt e hmem
    · exact hlt x (List.mem_of_getElem? hi)
  · intro x u
    by_cases hx : x = e.key
    · subst hx
      simp only [if_true]
      constructor
      · intro hu; cases hu; exact ⟨_, hin, hh1, hh3⟩
      · rintro ⟨y, hy, h1, h2⟩
        rcases mem_modify_of hj h y hy with rfl | ⟨i, hij, hi⟩
        · rw [← h2, hh3]
        · exact absurd h1 (pairwise_get (R := fun a b : MapEntry => a.key ≠ b.key) (fun a b hab => Ne.symm hab) huniq hij hi hj)
    · simp only [hx, if_false]
      rw [hsem]
      constructor
      · rintro ⟨y, hy, h1, h2⟩
        obtain ⟨i, hi⟩ := List.mem_iff_getElem?.1 hy
        by_cases hij : i = j
        · subst hij; rw [hj] at hi; cases hi; exact absurd h1.symm hx
        · exact ⟨y, hkeep i y hij hi, h1, h2⟩
      · rintro ⟨y, hy, h1, h2⟩
        rcases mem_modify_of hj h y hy with rfl | ⟨i, hij, hi⟩
        · rw [hh1] at h1; exact absurd h1.symm hx
        · exact ⟨y, List.mem_of_getElem? hi, h1, h2⟩

/-- 'm[k] = v' -/
theorem MapIs.update (law : Keyed P K) (hu : P.underlying T = some (.map K E)) (h : MapIs P K w r f n) {k : Value} {l : Lit} (hk : keyOf P K k = some l) (v : Value) :
    ∃ w' g, (Instr.mapUpdate T (.map (some r)) k v).run P w = .ok () w' ∧ MapIs P K w' r g (if (f k).isSome then n else n + 1) ∧ g k = some v ∧ (∀ x, x ≠ k → g x = f x) ∧ w.grownBy w' (some r) ∧ w'.heap.size = w.heap.size := by
  obtain ⟨es, clock, hh, hkeys, huniq, hborn, hlt, hsem, hs⟩ := h
  have hc := law.check w false hk
  have hg : (getObj r).run P w = .ok (.map es clock) w := by simp [getObj, Sem.run, hh]
  have hset : ∀ o, (setObj r o).run P w = .ok () (setBlock w r o) := fun o => by simp [setObj, Sem.run, hh, setBlock]
  rcases law.find w hk es.toList hkeys with ⟨hf, hno⟩ | ⟨j, e, hf, hj, hek⟩
  · have hfk := sem_none hsem hno
    obtain ⟨g, hg1, hg2, hg3⟩ := MapIs.pushed hh hkeys huniq hborn hlt hsem hs hk v hno
    refine ⟨setBlock w r (.map (es.push { key := k, val := v, born := clock }) (clock + 1)), g, ?_, by rw [hfk]; exact hg1, hg2, hg3, grown_setBlock w r _, by simp [setBlock]⟩
    simp [Instr.mapUpdate, run_underlying hu, hg, hc, hf, hset]
  · have hfk : f k = some e.val := (hsem k e.val).2 ⟨e, List.mem_of_getElem? hj, hek, rfl⟩
    subst hek
    obtain ⟨g, hg1, hg2, hg3⟩ := MapIs.turned hh hkeys huniq hborn hlt hsem hs hj v (fun e' => { e' with key := e.key, val := v }) rfl rfl rfl
    refine ⟨setBlock w r (.map (es.modify j fun e' => { e' with key := e.key, val := v }) clock), g, ?_, by rw [hfk]; exact hg1, hg2, hg3, grown_setBlock w r _, by simp [setBlock]⟩
    have hst := law.stays w hk
    have hj' : es[j]? = some e := by rw [← Array.getElem?_toList]; exact hj
    simp [Instr.mapUpdate, run_underlying hu, hg, hc, hf, hset, hj', hst]
/-- 'delete(m, k)' -/
theorem MapIs.delete (law : Keyed P K) (hu : P.underlying T = some (.map K E)) (h : MapIs P K w r f n) {k : Value} {l : Lit} (hk : keyOf P K k = some l) (ty : TypeId) (kT : TypeId) :
    ∃ w' g, (Builtin.delete_ #[T, kT] ty #[.map (some r), k]).run P w = .ok (.tuple #[]) w' ∧ MapIs P K w' r g (if (f k).isSome then n - 1 else n) ∧ g k = none ∧ (∀ x, x ≠ k → g x = f x) ∧ w.grownBy w' (some r) ∧ w'.heap.size = w.heap.size := by
  classical
  obtain ⟨es, clock, hh, hkeys, huniq, hborn, hlt, hsem, hs⟩ := h
  have hr : r < w.heap.size := (Array.getElem?_eq_some_iff.1 hh).1
  have hc := law.check w es.isEmpty hk
  have hg : (getObj r).run P w = .ok (.map es clock) w := by simp [getObj, Sem.run, hh]
  have hset : ∀ o, (setObj r o).run P w = .ok () (setBlock w r o) := fun o => by simp [setObj, Sem.run, hh, setBlock]
  rcases law.find w hk es.toList hkeys with ⟨hf, hno⟩ | ⟨j, e, hf, hj, hek⟩
  · have hfk := sem_none hsem hno
    refine ⟨setBlock w r (.map es clock), f, ?_, ⟨es, clock, heap_setBlock hr _, hkeys, huniq, hborn, hlt, hsem, by rw [hfk]; exact hs⟩, hfk, fun _ _ => rfl, grown_setBlock w r _, by simp [setBlock]⟩
    simp [Builtin.delete_, run_underlying hu, hg, hc, hf, hset]
  · have hfk : f k = some e.val := (hsem k e.val).2 ⟨e, List.mem_of_getElem? hj, hek, rfl⟩
    subst hek
    have hjlt : j < es.size := by rw [Array.getElem?_toList] at hj; exact (Array.getElem?_eq_some_iff.1 hj).1
    have hel : (es.eraseIdxIfInBounds j).toList = es.toList.eraseIdx j := by simp [Array.eraseIdxIfInBounds, hjlt]
    have hmem : ∀ x, x ∈ es.toList.eraseIdx j ↔ ∃ i, i ≠ j ∧ es.toList[i]? = some x := fun x => List.mem_eraseIdx_iff_getElem?
    have hsub : (es.toList.eraseIdx j).Sublist es.toList := List.eraseIdx_sublist ..
    refine ⟨setBlock w r (.map (es.eraseIdxIfInBounds j) clock), fun x => if x = e.key then none else f x, ?_, ⟨_, _, heap_setBlock hr _, ?_, ?_, ?_, ?_, ?_, ?_⟩, by simp, fun x hx => by simp [hx], grown_setBlock w r _, by simp [setBlock]⟩
    · simp [Builtin.delete_, run_underlying hu, hg, hc, hf, hset]
    · intro x hx; rw [hel] at hx; exact hkeys x (hsub.subset hx)
    · rw [hel]; exact huniq.sublist hsub
    · rw [hel]; exact hborn.sublist hsub
    · intro x hx; rw [hel] at hx; exact hlt x (hsub.subset hx)
    · intro x u
      rw [hel]
      by_cases hx : x = e.key
      · subst hx
        simp only [if_true]
        constructor
        · intro h; cases h
        · rintro ⟨y, hy, h1, h2⟩
          obtain ⟨i, hij, hi⟩ := (hmem y).1 hy
          exact absurd h1 (pairwise_get (R := fun a b : MapEntry => a.key ≠ b.key) (fun a b hab => Ne.symm hab) huniq hij hi hj)
      · simp only [hx, if_false]
        rw [hsem]
        constructor
        · rintro ⟨y, hy, h1, h2⟩
          obtain ⟨i, hi⟩ := List.mem_iff_getElem?.1 hy
          by_cases hij : i = j
          · subst hij; rw [hj] at hi; cases hi; exact absurd h1.symm hx
          · exact ⟨y, (hmem y).2 ⟨i, hij, hi⟩, h1, h2⟩
        · rintro ⟨y, hy, h1, h2⟩
          obtain ⟨i, _, hi⟩ := (hmem y).1 hy
          exact ⟨y, List.mem_of_getElem? hi, h1, h2⟩
    · rw [hfk]
      have : (es.eraseIdxIfInBounds j).size = es.size - 1 := by simp [Array.eraseIdxIfInBounds, hjlt]
      rw [this, hs]; rfl

theorem find_born {es : Array MapEntry} (hborn : es.toList.Pairwise (fun a b => a.born ≠ b.born)) {j : Nat} {e : MapEntry} (hj : es.toList[j]? = some e) :
    es.findIdx? (fun x => (x.born : Int) == (e.born : Int)) = some j := by
  rw [Array.findIdx?_eq_some_iff_getElem]
  have hj' : es[j]? = some e := by rw [← Array.getElem?_toList]; exact hj
  obtain ⟨hlt, he⟩ := Array.getElem?_eq_some_iff.1 hj'
  refine ⟨hlt, by simp [he], fun i hi => ?_⟩
  have := pairwise_get (R := fun a b : MapEntry => a.born ≠ b.born) (fun a b hab => Ne.symm hab) hborn (i := i) (j := j) (by omega) (a := es[i]) (by rw [Array.getElem?_toList]; exact Array.getElem?_eq_getElem _) hj
  simp
  omega

theorem MapIs.entryStore {w' : World} {g : Value → Option Value} {N : Nat} {es : Array MapEntry} {clock : Nat} (h : MapIs P K w' r g N) (hes : w'.heap[r]? = some (.map es clock)) {j : Nat} {e : MapEntry} (hj : es.toList[j]? = some e)
    (w2 : World) (hb : w2.heap[r]? = w'.heap[r]?) (v : Value) :
    ∃ w3 g', (Instr.entryStore T (.map (some r)) (.int .i64 e.born) v).run P w2 = .ok () w3 ∧ MapIs P K w3 r g' N ∧ g' e.key = some v ∧ (∀ x, x ≠ e.key → g' x = g x) ∧ w2.grownBy w3 (some r) ∧ w3.heap.size = w2.heap.size := by
  obtain ⟨es', clock', hh, hkeys, huniq, hborn, hlt, hsem, hs⟩ := h
  rw [hes] at hh
  cases hh
  rw [hes] at hb
  have hg : (getObj r).run P w2 = .ok (.map es clock) w2 := by simp [getObj, Sem.run, hb]
  have hset : ∀ o, (setObj r o).run P w2 = .ok () (setBlock w2 r o) := fun o => by simp [setObj, Sem.run, hb, setBlock]
  obtain ⟨g', h1, h2, h3⟩ := MapIs.turned hb hkeys huniq hborn hlt hsem hs hj v (fun e' => { e' with val := v }) rfl rfl rfl
  refine ⟨_, g', ?_, h1, h2, h3, grown_setBlock w2 r _, by simp [setBlock]⟩
  have hfi := find_born hborn hj
  simp [Instr.entryStore, hg, asInt, asIntOf, hfi, hset]

/-- 'm[k] = append(m[k], ..)': the entry is made ready: it holds what it held, or the zero value; and then stored into. -/
theorem MapIs.entry (law : Keyed P K) (hu : P.underlying T = some (.map K E)) {z : Value} (hz : (zeroValue E).run P w = .ok z w) (h : MapIs P K w r f n) {k : Value} {l : Lit} (hk : keyOf P K k = some l) :
    ∃ w' g s, (Instr.mapEntry T (.map (some r)) k).run P w = .ok (.tuple #[(f k).getD z, .int .i64 s]) w' ∧ MapIs P K w' r g (if (f k).isSome then n else n + 1) ∧ (∀ x, x ≠ k → g x = f x) ∧ w.grownBy w' (some r) ∧ w'.heap.size = w.heap.size ∧
      ∀ w2 v, w2.heap[r]? = w'.heap[r]? → ∃ w3 g', (Instr.entryStore T (.map (some r)) (.int .i64 s) v).run P w2 = .ok () w3 ∧ MapIs P K w3 r g' (if (f k).isSome then n else n + 1) ∧ g' k = some v ∧ (∀ x, x ≠ k → g' x = f x) ∧ w2.grownBy w3 (some r) ∧ w3.heap.size = w2.heap.size := by
  obtain ⟨es, clock, hh, hkeys, huniq, hborn, hlt, hsem, hs⟩ := h
  have hr : r < w.heap.size := (Array.getElem?_eq_some_iff.1 hh).1
  have hc := law.check w false hk
  have hg : (getObj r).run P w = .ok (.map es clock) w := by simp [getObj, Sem.run, hh]
  have hset : ∀ o, (setObj r o).run P w = .ok () (setBlock w r o) := fun o => by simp [setObj, Sem.run, hh, setBlock]
  rcases law.find w hk es.toList hkeys with ⟨hf, hno⟩ | ⟨j, e, hf, hj, hek⟩
  · have hfk := sem_none hsem hno
    obtain ⟨g, hg1, hg2, hg3⟩ := MapIs.pushed hh hkeys huniq hborn hlt hsem hs hk z hno
    refine ⟨setBlock w r (.map (es.push { key := k, val := z, born := clock }) (clock + 1)), g, clock, ?_, by rw [hfk]; exact hg1, hg3, grown_setBlock w r _, by simp [setBlock], ?_⟩
    · simp [Instr.mapEntry, run_underlying hu, hg, hc, hf, hset, hz, hfk, goInt]
    · intro w2 v hb
      rw [hfk]
      obtain ⟨w3, g', a1, a2, a3, a4, a5, a6⟩ := MapIs.entryStore (T := T) hg1 (heap_setBlock hr _) (j := es.size) (e := { key := k, val := z, born := clock }) (by simp) w2 hb v
      exact ⟨w3, g', a1, a2, a3, fun x hx => (a4 x hx).trans (hg3 x hx), a5, a6⟩
  · have hfk : f k = some e.val := (hsem k e.val).2 ⟨e, List.mem_of_getElem? hj, hek, rfl⟩
    subst hek
    obtain ⟨g, hg1, hg2, hg3⟩ := MapIs.turned hh hkeys huniq hborn hlt hsem hs hj e.val (fun e' => { e' with key := e.key }) rfl rfl rfl
    have hst := law.stays w hk
    have hj' : es[j]? = some e := by rw [← Array.getElem?_toList]; exact hj
    refine ⟨setBlock w r (.map (es.modify j fun e' => { e' with key := e.key }) clock), g, e.born, ?_, by rw [hfk]; exact hg1, hg3, grown_setBlock w r _, by simp [setBlock], ?_⟩
    · simp [Instr.mapEntry, run_underlying hu, hg, hc, hf, hset, hj', hst, hfk, goInt]
    · intro w2 v hb
      rw [hfk]
      obtain ⟨w3, g', a1, a2, a3, a4, a5, a6⟩ := MapIs.entryStore (T := T) hg1 (heap_setBlock hr _) (j := j) (e := { e with key := e.key }) (by rw [Array.getElem?_toList]; simp [Array.getElem?_modify, hj']) w2 hb v
      exact ⟨w3, g', a1, a2, a3, fun x hx => (a4 x hx).trans (hg3 x hx), a5, a6⟩
end
end Go.Proofs.Ybulkcfri

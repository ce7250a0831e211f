import Derived.Test.YbulkcfriHoldKnown
import Derived.Test.YbulkcfriHoldNil
import Derived.Test.YbulkcfriNextFirst
import Derived.Test.YbulkcfriRelFree
import Derived.Test.YbulkcfriRelHeld
import Derived.Test.YbulkcfriSendHeld
namespace Go.Proofs.Ybulkcfri
open Go.ChangeShapes Go.WideShapes Go.ChangeAt Go.RowKit Go.MuLone
abbrev Pr := ByteArray × ByteArray
def lk (k : Nat) : Pr := (nm (k / 3), nm (k % 3))
def ky (k : Nat) : Value := .agg #[.string (nm (k / 3)), .string (nm (k % 3))]
def ix (a b : Nat) : Nat := a % 3 * 3 + b % 3
theorem ix_lt (a b : Nat) : ix a b < 9 := by unfold ix; omega
theorem nm_mod (a : Nat) : nm (a % 3) = nm a := by unfold nm; rw [Nat.mod_mod]
theorem lk_ix (a b : Nat) : lk (ix a b) = (nm a, nm b) := by
  unfold lk ix
  rw [show (a % 3 * 3 + b % 3) / 3 = a % 3 by omega, show (a % 3 * 3 + b % 3) % 3 = b % 3 by omega, nm_mod, nm_mod]
theorem ky_ix (a b : Nat) : ky (ix a b) = .agg #[.string (nm a), .string (nm b)] := by
  have := lk_ix a b
  unfold lk at this
  injection this with h1 h2
  unfold ky; rw [h1, h2]
theorem nm_size (i : Nat) : (nm i).size ≤ maxLen := by
  have : (nm i).size = 1 := by unfold nm; split; rfl; split <;> rfl
  rw [this]; unfold maxLen; omega
theorem nm_inj {i j : Nat} (hi : i < 3) (hj : j < 3) (h : nm i = nm j) : i = j := by
  unfold nm at h
  rcases (by omega : i = 0 ∨ i = 1 ∨ i = 2) with rfl | rfl | rfl <;> rcases (by omega : j = 0 ∨ j = 1 ∨ j = 2) with rfl | rfl | rfl <;> simp at h ⊢
theorem ky_inj {k k' : Nat} (hk : k < 9) (hk' : k' < 9) (h : ky k = ky k') : k = k' := by
  unfold ky at h
  simp at h
  have h1 := nm_inj (by omega) (by omega) h.1
  have h2 := nm_inj (by omega) (by omega) h.2
  omega
def tot (H : Nat → Option (List Pr)) : Nat := ((H 0).getD []).length + ((H 1).getD []).length + ((H 2).getD []).length + ((H 3).getD []).length + ((H 4).getD []).length + ((H 5).getD []).length + ((H 6).getD []).length + ((H 7).getD []).length + ((H 8).getD []).length
def upd (H : Nat → Option (List Pr)) (k : Nat) (x : Option (List Pr)) : Nat → Option (List Pr) := fun j => if j = k then x else H j
theorem upd_same (H : Nat → Option (List Pr)) (k : Nat) (x : Option (List Pr)) : upd H k x k = x := by simp [upd]
theorem upd_other (H : Nat → Option (List Pr)) {k j : Nat} (x : Option (List Pr)) (h : j ≠ k) : upd H k x j = H j := by simp [upd, h]
theorem tot_upd (H : Nat → Option (List Pr)) {k : Nat} (hk : k < 9) (x : Option (List Pr)) : tot (upd H k x) + ((H k).getD []).length = tot H + (x.getD []).length := by
  rcases (by omega : k = 0 ∨ k = 1 ∨ k = 2 ∨ k = 3 ∨ k = 4 ∨ k = 5 ∨ k = 6 ∨ k = 7 ∨ k = 8) with rfl | rfl | rfl | rfl | rfl | rfl | rfl | rfl | rfl <;> simp [tot, upd] <;> omega
theorem le_tot (H : Nat → Option (List Pr)) {k : Nat} (hk : k < 9) : ((H k).getD []).length ≤ tot H := by
  rcases (by omega : k = 0 ∨ k = 1 ∨ k = 2 ∨ k = 3 ∨ k = 4 ∨ k = 5 ∨ k = 6 ∨ k = 7 ∨ k = 8) with rfl | rfl | rfl | rfl | rfl | rfl | rfl | rfl | rfl <;> simp [tot] <;> omega
def HMap (B : Nat) (w : World) (hm : Value) (f : Value → Option Value) (n : Nat) : Prop := (hm = .map none ∧ n = 0 ∧ f = fun _ => none) ∨ ∃ r, hm = .map (some r) ∧ B ≤ r ∧ MapIs Yba.prog 102 w r f n
theorem HMap.fr {X : Nat → Prop} {B n : Nat} {w w' : World} {hm : Value} {f : Value → Option Value} (h : HMap B w hm f n) (hf : Fr X w w') (hx : ∀ r es ck, hm = .map (some r) → w.heap[r]? = some (.map es ck) → ¬ X r) : HMap B w' hm f n := by
  rcases h with h | ⟨r, rfl, hB, hm⟩
  · exact .inl h
  · refine .inr ⟨r, rfl, hB, hm.of_block (hf.block r hm.lt ?_)⟩
    obtain ⟨es, ck, hh, _⟩ := hm
    exact hx r es ck rfl hh
theorem HMap.plain {B n : Nat} {w : World} {hm : Value} {f : Value → Option Value} (h : HMap B w hm f n) : (hm = .map none ∧ n = 0 ∧ f = fun _ => none) ∨ ∃ r, hm = .map (some r) ∧ MapIs Yba.prog 102 w r f n := by
  rcases h with h | ⟨r, h1, _, h2⟩
  · exact .inl h
  · exact .inr ⟨r, h1, h2⟩
structure TS0 (B M N : Nat) (w : World) (v : Value) (h : Nat) (hm : Value) (ms : List Pr) (V : Nat → Value) (f : Value → Option Value) (H : Nat → Option (List Pr)) (n : Nat) : Prop where
  blk : w.heap[M]? = some (.cells (tCells 0 v h hm) 96 (0, 0))
  bm : B ≤ M
  own : w.ownsRow B 49 13 v ms.length (rowOf ms)
  hh : h ≤ ms.length
  bound : ms.length + tot H ≤ N
  map : HMap B w hm f n
  key : ∀ k, k < 9 → f (ky k) = (H k).map fun _ => V k
  rows : ∀ k q, k < 9 → H k = some q → w.ownsRow B 49 13 (V k) q.length (rowOf q)
  apart : ∀ k q g, k < 9 → H k = some q → (V k).ownBlock = some g → v.ownBlock ≠ some g
  apart2 : ∀ k k' q q' g, k < 9 → k' < 9 → k ≠ k' → H k = some q → H k' = some q' → (V k).ownBlock = some g → (V k').ownBlock ≠ some g
  nb : n ≤ N
/-- The transport at block M: what is in flight, what is held. -/
def TS (B M N : Nat) (w : World) (fl : List Pr) (H : Nat → Option (List Pr)) (n : Nat) : Prop := ∃ v h hm ms V f, TS0 B M N w v h hm ms V f H n ∧ ms.drop h = fl
def Foot (w : World) (k : Nat) : Prop := (∃ c, w.heap[k]? = some (.cells c 49 (0, 0))) ∨ (∃ c, w.heap[k]? = some (.cells c 96 (0, 0))) ∨ ∃ es ck, w.heap[k]? = some (.map es ck)
/-- Nothing but the transport's own blocks has turned. -/
def Kept (B : Nat) (w w' : World) : Prop := Fr (fun k => B ≤ k ∧ Foot w k) w w'
theorem own_B {w : World} {B n size : Nat} {e : TypeId} {v : Value} {xs : List Value} (h : w.ownsRow B e size v n xs) {g : Nat} (hg : v.ownBlock = some g) : B ≤ g := by
  rcases h.2 with ⟨rfl, _⟩ | ⟨g', cap, cur, rfl, hb, _⟩
  · cases hg
  · cases hg; exact hb
theorem own_lt {w : World} {B n size : Nat} {e : TypeId} {v : Value} {xs : List Value} (h : w.ownsRow B e size v n xs) {g : Nat} (hg : v.ownBlock = some g) : g < w.heap.size := by
  obtain ⟨cu, hh⟩ := own_tag h hg
  exact lt_of_some hh
theorem Kept.trans {B : Nat} {a b c : World} (h : Kept B a b) (k : Kept B b c) : Kept B a c :=
  ⟨k.os.trans h.os, k.tape.trans h.tape, k.output.trans h.output, Nat.le_trans h.size k.size, fun i hi hx => by
    have e := h.block i hi hx
    refine (k.block i (Nat.lt_of_lt_of_le hi h.size) (fun hq => hx ⟨hq.1, ?_⟩)).trans e
    rcases hq.2 with ⟨c, h1⟩ | ⟨c, h1⟩ | ⟨es, ck, h1⟩
    · exact .inl ⟨c, e ▸ h1⟩
    · exact .inr (.inl ⟨c, e ▸ h1⟩)
    · exact .inr (.inr ⟨es, ck, e ▸ h1⟩)⟩
theorem Kept.of_below {B : Nat} {w w' : World} (h : Below w.heap.size w w') : Kept B w w' := Fr.of_below h _
theorem Kept.refl (B : Nat) (w : World) : Kept B w w := Fr.refl _ w
theorem Kept.below {B : Nat} {w w' : World} (h : Kept B w w') (hB : B ≤ w.heap.size) : Below B w w' := Fr.below h hB (fun _ hk => hk.1)
/-- A row of another type stays. -/
theorem Kept.own {B C n size : Nat} {w w' : World} {e : TypeId} {v : Value} {xs : List Value} (h : Kept B w w') (ho : w.ownsRow C e size v n xs) (h1 : e ≠ 49) (h2 : e ≠ 96) : w'.ownsRow C e size v n xs :=
  own_fr ho h (fun g hg hq => by
    obtain ⟨cu, hh⟩ := own_tag ho hg
    rcases hq.2 with ⟨c, h3⟩ | ⟨c, h3⟩ | ⟨es, ck, h3⟩
    · rw [hh] at h3; cases h3; exact h1 rfl
    · rw [hh] at h3; cases h3; exact h2 rfl
    · rw [hh] at h3; cases h3)
theorem Kept.blk {B k : Nat} {w w' : World} (h : Kept B w w') {c : Array Value} {t : TypeId} {z : Nat × Nat} (hh : w.heap[k]? = some (.cells c t z)) (h1 : t ≠ 49) (h2 : t ≠ 96) : w'.heap[k]? = some (.cells c t z) :=
  (h.block k (lt_of_some hh) (fun hq => by
    rcases hq.2 with ⟨c, h3⟩ | ⟨c, h3⟩ | ⟨es, ck, h3⟩
    · rw [hh] at h3; cases h3; exact h1 rfl
    · rw [hh] at h3; cases h3; exact h2 rfl
    · rw [hh] at h3; cases h3)).trans hh
theorem TS.mono {B M N N' : Nat} {w : World} {fl : List Pr} {H : Nat → Option (List Pr)} {n : Nat} (h : TS B M N w fl H n) (hN : N ≤ N') : TS B M N' w fl H n := by
  obtain ⟨v, h0, hm, ms, V, f, ht, hd⟩ := h
  exact ⟨v, h0, hm, ms, V, f, { ht with bound := Nat.le_trans ht.bound hN, nb := Nat.le_trans ht.nb hN }, hd⟩
theorem TS.below {B M N : Nat} {w w' : World} {fl : List Pr} {H : Nat → Option (List Pr)} {n : Nat} (h : TS B M N w fl H n) (hb : Below w.heap.size w w') : TS B M N w' fl H n := by
  obtain ⟨v, h0, hm, ms, V, f, ht, hd⟩ := h
  have hf : Fr (fun _ => False) w w' := Fr.of_below hb _
  exact ⟨v, h0, hm, ms, V, f, ⟨(hb.block _ (lt_of_some ht.blk)).trans ht.blk, ht.bm, own_fr ht.own hf (fun _ _ => id), ht.hh, ht.bound, ht.map.fr hf (fun _ _ _ _ _ => id), ht.key, fun k q hk hq => own_fr (ht.rows k q hk hq) hf (fun _ _ => id), ht.apart, ht.apart2, ht.nb⟩, hd⟩
section
variable {B M N : Nat} {w : World} {v : Value} {h : Nat} {hm : Value} {ms : List Pr} {V : Nat → Value} {f : Value → Option Value} {H : Nat → Option (List Pr)} {n : Nat}
theorem TS0.foot (ht : TS0 B M N w v h hm ms V f H n) : B ≤ M ∧ Foot w M := ⟨ht.bm, .inr (.inl ⟨_, ht.blk⟩)⟩
theorem TS0.footV (ht : TS0 B M N w v h hm ms V f H n) {k : Nat} (hk : v.ownBlock = some k) : B ≤ k ∧ Foot w k := by
  obtain ⟨cu, hh⟩ := own_tag ht.own hk
  exact ⟨own_B ht.own hk, .inl ⟨_, hh⟩⟩
theorem TS0.footM (ht : TS0 B M N w v h hm ms V f H n) {k : Nat} (hk : hm = .map (some k)) : B ≤ k ∧ Foot w k := by
  rcases ht.map with ⟨e, _⟩ | ⟨r, e, hB, es, ck, hh, _⟩
  · rw [hk] at e; cases e
  · rw [hk] at e; cases e; exact ⟨hB, .inr (.inr ⟨es, ck, hh⟩)⟩
theorem TS0.mapM (ht : TS0 B M N w v h hm ms V f H n) (r : Nat) (hr : hm = .map (some r)) : r ≠ M ∧ r < w.heap.size ∧ v.ownBlock ≠ some r := by
  rcases ht.map with ⟨e, _⟩ | ⟨r', e, hB, es, ck, hh, _⟩
  · rw [hr] at e; cases e
  · rw [hr] at e; cases e
    refine ⟨fun e => ?_, lt_of_some hh, fun e => ?_⟩
    · rw [e, ht.blk] at hh; cases hh
    · obtain ⟨cu, h3⟩ := own_tag ht.own e
      rw [hh] at h3; cases h3
/-- The row in flight turned, nothing else. -/
theorem TS0.reflight (ht : TS0 B M N w v h hm ms V f H n) {w' : World} {v' : Value} {h' : Nat} {ms' : List Pr} {N' : Nat} (hM : w'.heap[M]? = some (.cells (tCells 0 v' h' hm) 96 (0, 0))) (hown : w'.ownsRow B 49 13 v' ms'.length (rowOf ms')) (hh : h' ≤ ms'.length) (hN : ms'.length + tot H ≤ N') (hNN : N ≤ N')
    (hf : Fr (fun k => k = M ∨ v.ownBlock = some k) w w') (hb : v'.ownBlock = v.ownBlock ∨ ∃ g, v'.ownBlock = some g ∧ w.heap.size ≤ g) : TS0 B M N' w' v' h' hm ms' V f H n ∧ Kept B w w' := by
  refine ⟨⟨hM, ht.bm, hown, hh, hN, ht.map.fr hf (fun r es ck hr hh2 => ?_), ht.key, fun k q hk hq => own_fr (ht.rows k q hk hq) hf (fun g hg => ?_), fun k q g hk hq hg => ?_, ht.apart2, Nat.le_trans ht.nb hNN⟩, hf.mono (fun k _ e => ?_)⟩
  · rintro (e | e)
    · exact (ht.mapM r hr).1 e
    · exact (ht.mapM r hr).2.2 e
  · rintro (e | e)
    · obtain ⟨cu, h3⟩ := own_tag (ht.rows k q hk hq) hg
      exact tag_ne h3 ht.blk (by decide) e
    · exact ht.apart k q g hk hq hg e
  · rcases hb with e | ⟨g', e, hl⟩
    · rw [e]; exact ht.apart k q g hk hq hg
    · rw [e]; intro e2; have := own_lt (ht.rows k q hk hq) hg; have := Option.some.inj e2; omega
  · rcases e with rfl | e
    · exact ht.foot
    · exact ht.footV e
end
end Go.Proofs.Ybulkcfri

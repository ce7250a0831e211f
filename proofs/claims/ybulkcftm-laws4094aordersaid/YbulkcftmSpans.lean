import Derived.Test.YbulkcftmLeaf
import Derived.Deep.LoopGhost
import Derived.Deep.RegionWith
namespace Go.Proofs.Ybulkcftm
open Go.ChangeShapes Go.WideShapes Go.ChangeAt Go.RowKit
/-- The leaf behind leaf i. -/
def nxtOf (n : Nat) (lb : Nat → Nat) (i : Nat) : Option Addr := if i + 1 < n then some ⟨lb (i + 1), 0, none⟩ else none
/-- n leaves, linked. -/
def Chain (w : World) (n : Nat) (lb cn : Nat → Nat) : Prop := ∀ i, i < n → LeafAt w (lb i) i (cn i) (nxtOf n lb i)
theorem Chain.below {w w' : World} {n : Nat} {lb cn : Nat → Nat} (h : Chain w n lb cn) (hb : Below w.heap.size w w') : Chain w' n lb cn :=
  fun i hi => (h i hi).of_block (hb.block _ (h i hi).lt)
/-- The first span's number of leaf i. -/
def off (cn : Nat → Nat) : Nat → Nat
  | 0 => 0
  | i + 1 => off cn i + cn i
theorem off_mono (cn : Nat → Nat) {i j : Nat} (h : i ≤ j) : off cn i ≤ off cn j := by
  induction h with
  | refl => exact Nat.le_refl _
  | step _ ih => exact Nat.le_trans ih (Nat.le_add_right _ _)
/-- The slot of the t-th span, or the zero slot behind the last. -/
def PosV (n : Nat) (lb cn : Nat → Nat) (t : Nat) (v : Value) : Prop :=
  (∃ i k, i < n ∧ k < cn i ∧ t = off cn i + k ∧ v = .agg #[.pointer (some ⟨lb i, 0, none⟩), .int .i64 (place i k)]) ∨ (t = off cn n ∧ v = .agg #[.pointer none, .int .i64 0])
theorem next_pos (w : World) (n : Nat) (lb cn : Nat → Nat) (hcn : ∀ i, 0 < cn i ∧ cn i ≤ 16) (hc : Chain w n lb cn) (i k : Nat) (hi : i < n) (hk : k < cn i) (p : Int) (hp : p = place i k) :
    Calls Yba.prog 18 #[.agg #[.pointer (some ⟨lb i, 0, none⟩), .int .i64 p]] w fun e w' => (∃ v, e = .returned v ∧ PosV n lb cn (off cn i + k + 1) v) ∧ Below w.heap.size w w' := by
  subst hp
  by_cases h1 : k + 1 < cn i
  · refine (next_in w (lb i) i (cn i) k _ (hcn i).2 h1 (hc i hi)).mono ?_
    rintro e w' ⟨rfl, hb⟩
    exact ⟨⟨_, rfl, .inl ⟨i, k + 1, hi, h1, by omega, rfl⟩⟩, hb⟩
  · by_cases h2 : i + 1 < n
    · have hL := hc i hi
      rw [nxtOf, if_pos h2] at hL
      refine (next_over w (lb i) i (cn i) k (lb (i + 1)) (i + 1) (cn (i + 1)) _ (hcn i).2 (hcn (i + 1)).2 (hcn (i + 1)).1 (by omega) hL (hc (i + 1) h2)).mono ?_
      rintro e w' ⟨rfl, hb⟩
      exact ⟨⟨_, rfl, .inl ⟨i + 1, 0, h2, (hcn (i + 1)).1, by simp only [off]; omega, rfl⟩⟩, hb⟩
    · have hL := hc i hi
      rw [nxtOf, if_neg h2] at hL
      refine (next_end w (lb i) i (cn i) k (hcn i).2 (by omega) hL).mono ?_
      rintro e w' ⟨rfl, hb⟩
      exact ⟨⟨_, rfl, .inr ⟨by obtain rfl : n = i + 1 := by omega
                               simp only [off]; omega, rfl⟩⟩, hb⟩
/-- What the walk over the spans ends in. -/
def Stops (St : Nat → World → Prop) (go : Nat → Bool) (m : Nat) (w : World) : Prop :=
  ∃ T, St T w ∧ 1 ≤ T ∧ T ≤ m ∧ (∀ t, 1 ≤ t → t + 1 < T → go t = true) ∧ (T < m → 2 ≤ T ∧ go (T - 1) = false)
theorem Fr.setNew {X : Nat → Prop} {w0 w : World} (h : Fr X w0 w) {N : Nat} (hN : w0.heap.size ≤ N) (k : Nat) (v : Value) : Fr X w0 (w.setCell ⟨N, k, none⟩ v) := by
  refine ⟨h.os, h.tape, h.output, by simpa [World.setCell] using h.size, fun j hj hne => ?_⟩
  rw [heap_setCell_other (by show N ≠ j; omega)]
  exact h.block j hj hne
/-- What holds at the head of the walk's loop. -/
def AtLoop (n : Nat) (lb cn : Nat → Nat) (St : Nat → World → Prop) (X : Nat → Prop) (go : Nat → Bool) (w : World) (A t gk : Nat) (wr : World) : Prop :=
  ((∃ i k, i < n ∧ k < cn i ∧ t = off cn i + k ∧ wr.heap[A]? = some (.cells #[.pointer (some ⟨lb i, 0, none⟩), .int .i64 (place i k)] 55 (0, 0))) ∨ (t = off cn n ∧ wr.heap[A]? = some (.cells #[.pointer none, .int .i64 0] 55 (0, 0)))) ∧
  w.heap.size ≤ A ∧ St t wr ∧ Fr X w wr ∧ 1 ≤ t ∧ (∀ t', 1 ≤ t' → t' < t → go t' = true) ∧ off cn n < t + gk
theorem Hid.mk' {p : Prop} (h : p) : Hid p := h
set_option maxHeartbeats 4000000 in
theorem spans7 (n : Nat) (lb cn : Nat → Nat) (hn : 0 < n) (hcn : ∀ i, 0 < cn i ∧ cn i ≤ 16) (St : Nat → World → Prop) (X : Nat → Prop) (go : Nat → Bool)
    (hchain : ∀ t w, St t w → Chain w n lb cn)
    (c0 c1 c2 c3 c4 c5 : Value)
    (hcall : ∀ i k w, i < n → k < cn i → 0 < off cn i + k → St (off cn i + k) w → Calls Yba.prog 7 #[.agg #[.pointer (some ⟨lb i, 0, none⟩), .int .i64 (place i k)], .pointer (some ⟨lb i, 25 + place i k * 11, none⟩), c0, c1, c2, c3, c4, c5] w
      fun e w' => e = .returned (.bool (go (off cn i + k))) ∧ St (off cn i + k + 1) w' ∧ Fr X w w')
    (w : World) (hbel : ∀ t a b, St t a → Below w.heap.size a b → St t b) (hX : ∀ k, X k → k < w.heap.size) (B S : Nat) (hB : w.cell? ⟨B, 0, none⟩ = some (.pointer (some ⟨S, 0, none⟩))) (hS : w.cell? ⟨S, 3, none⟩ = some (.pointer (some ⟨lb 0, 0, none⟩))) (h1 : St 1 w) :
    Calls Yba.prog 16 #[.func (.func 7) #[] #[c0, c1, c2, c3, c4, c5], .pointer (some ⟨B, 0, none⟩)] w fun e w' => e = .returned (.tuple #[]) ∧ Stops St go (off cn n) w' ∧ Fr X w w' := by
  go_enter Yba.func16, Yba.ntmps16
  go_wp2_with fail
  refine (head_any _ S (lb 0) hS).mono ?_
  rintro e w1 ⟨rfl, b1⟩
  have t1 : St 1 w1 := hbel _ _ _ h1 b1
  go_wp2_with fail
  refine (next_pos _ n lb cn hcn (hchain _ _ t1) 0 0 hn (hcn 0).1 0 rfl).mono ?_
  rintro e w2 ⟨⟨v, rfl, hv⟩, b2⟩
  have t2 : St 1 w2 := hbel _ _ _ t1 (b2.mono b1.size)
  have r2 : Fr X w w2 := (Fr.of_below b1 X).trans (Fr.of_below b2 X)
  clear b1 b2 t1
  rcases hv with ⟨i, k, hi, hk, ht, rfl⟩ | ⟨ht, rfl⟩
  · go_wp2
    go_loopg [3] (off cn n) (fun gk p wr => ∃ A t, p = .pointer (some ⟨A, 0, none⟩) ∧ AtLoop n lb cn St X go w A t gk wr)
    case atStart =>
      refine ⟨w2.heap.size, 1, rfl, .inl ⟨i, k, hi, hk, by rw [← ht]; rfl, ?_⟩, r2.size, hbel _ _ _ t2 ((below_alloc _ _).mono r2.size), r2.alloc _, Nat.le_refl _, fun t' h1 h2 => by omega, by omega⟩
      rw [heap_alloc, if_pos rfl]
    case round =>
      obtain ⟨A, t, rfl, hp, hA, hst, hfr, ht1, hgo, hgk⟩ := hrel
      rcases hp with ⟨i, k, hi, hk, ht, hblk⟩ | ⟨ht, hblk⟩
      · have hc0 := cell_of (j := 0) hblk rfl
        have hc1 := cell_of (j := 1) hblk rfl
        have hpl := place_lt i k
        have hlt : t < off cn n := by
          have h1 := off_mono cn (Nat.succ_le_of_lt hi)
          have h2 : off cn (i + 1) = off cn i + cn i := rfl
          have h3 : off cn (i.succ) = off cn (i + 1) := rfl
          omega
        have hAX : ¬ X A := fun h => by have := hX A h; omega
        have hc7 := fun w h => hcall i k w hi hk (by omega) h
        rw [← ht] at hc7
        have HT : Hid (t = off cn i + k) := ht
        have HG : Hid (∀ t', 1 ≤ t' → t' < t → go t' = true) := hgo
        clear ht hgo
        cases hg : go t with
        | false =>
          rw [hg] at hc7
          have Hg := Hid.mk' hg
          clear hg
          go_wp2
          go_region_with (first | (go_at_call 19; refine (span_any _ (lb i) (place i k) hpl).mono ?_; rintro e w3 ⟨rfl, b3⟩; have b3' : Below wr.heap.size wr w3 := ⟨b3.os, b3.tape, b3.output, b3.size, b3.block⟩; clear b3; have d0 := Below.cellAt b3' hc0; have d1 := Below.cellAt b3' hc1; have hst3 := hbel _ _ _ hst (b3'.mono hfr.size); have fr3 := hfr.trans (Fr.of_below b3' X); have blk3 := (b3'.block A (lt_of_some hblk)).trans hblk; clear b3') | (go_at_call 7; refine (hc7 _ (by assumption)).mono ?_; rintro e w4 ⟨rfl, hst4, fr4⟩))
          all_goals
            go_wp2
            refine bodyPost_ret (v := .tuple #[]) (results_none rfl _ _ _) rfl ?_
            exact ⟨rfl, ⟨t + 1, hst4, by omega, by omega, fun t' h1 h2 => HG.out t' h1 (by omega), fun _ => ⟨by omega, Hg.out⟩⟩, fr3.trans fr4⟩
        | true =>
          rw [hg] at hc7
          have Hg := Hid.mk' hg
          clear hg
          go_wp2
          go_region_with (first | (go_at_call 19; refine (span_any _ (lb i) (place i k) hpl).mono ?_; rintro e w3 ⟨rfl, b3⟩; have b3' : Below wr.heap.size wr w3 := ⟨b3.os, b3.tape, b3.output, b3.size, b3.block⟩; clear b3; have d0 := Below.cellAt b3' hc0; have d1 := Below.cellAt b3' hc1; have hst3 := hbel _ _ _ hst (b3'.mono hfr.size); have fr3 := hfr.trans (Fr.of_below b3' X); have blk3 := (b3'.block A (lt_of_some hblk)).trans hblk; clear b3') | (go_at_call 7; refine (hc7 _ (by assumption)).mono ?_; rintro e w4 ⟨rfl, hst4, fr4⟩))
          all_goals
            have blk4 : w4.heap[A]? = some (.cells #[.pointer (some ⟨lb i, 0, none⟩), .int .i64 (place i k)] 55 (0, 0)) := (fr4.block A (lt_of_some blk3) hAX).trans blk3
            have e0 := cell_of (j := 0) blk4 rfl
            have e1 := cell_of (j := 1) blk4 rfl
            have fr := fr3.trans fr4
            clear fr3 fr4 blk3 d0 d1 hst3 hblk hc0 hc1
            go_wp2_with fail
            refine (next_pos _ n lb cn hcn (hchain _ _ (hbel _ _ _ hst4 ((below_alloc _ _).mono fr.size))) i k hi hk _ rfl).mono ?_
            rintro e w5 ⟨⟨v, rfl, hv⟩, b5⟩
            have fr5 : Fr X w w5 := (fr.alloc _).trans (Fr.of_below b5 X)
            have st5 : St (t + 1) w5 := hbel _ _ _ (hbel _ _ _ hst4 ((below_alloc _ _).mono fr.size)) (b5.mono (by rw [size_alloc]; exact Nat.le_succ_of_le fr.size))
            have blk5 : w5.heap[w4.heap.size]? = some (.cells #[.pointer (some ⟨lb i, 0, none⟩), .int .i64 (place i k)] 55 (0, 0)) := (b5.block _ (by rw [size_alloc]; omega)).trans (by rw [heap_alloc, if_pos rfl])
            have s4 : w.heap.size ≤ w4.heap.size := fr.size
            have hnX : ¬ X w4.heap.size := fun h => by have := hX _ h; omega
            clear b5 fr blk4 e0 e1 hst4
            have f0 : w5.frozen? ⟨w4.heap.size, 0, none⟩ = false := free_of blk5
            have f1 : w5.frozen? ⟨w4.heap.size, 1, none⟩ = false := free_of blk5
            have g0 := cell_of (j := 0) blk5 rfl
            have g1 := cell_of (j := 1) blk5 rfl
            generalize w4.heap.size = N at *
            rw [← HT.out] at hv
            rcases hv with ⟨i', k', hi', hk', ht', rfl⟩ | ⟨ht', rfl⟩
            · go_wp2
              go_roundg (gk - 1)
              case measure => omega
              case rel =>
                refine ⟨N, t + 1, rfl, .inl ⟨i', k', hi', hk', ht', by rw [heap_setCell_same (heap_setCell_same blk5)]; rfl⟩, s4, hbel _ _ _ st5 (((Below.refl _ _).setCell s4 _).setCell s4 _), (fr5.setNew s4 _ _).setNew s4 _ _, by omega, fun t' h1 h2 => ?_, by omega⟩
                by_cases e : t' = t
                · rw [e]; exact Hg.out
                · exact HG.out t' h1 (by omega)
            · go_wp2
              go_roundg (gk - 1)
              case measure => omega
              case rel =>
                refine ⟨N, t + 1, rfl, .inr ⟨ht', by rw [heap_setCell_same (heap_setCell_same blk5)]; rfl⟩, s4, hbel _ _ _ st5 (((Below.refl _ _).setCell s4 _).setCell s4 _), (fr5.setNew s4 _ _).setNew s4 _ _, by omega, fun t' h1 h2 => ?_, by omega⟩
                by_cases e : t' = t
                · rw [e]; exact Hg.out
                · exact HG.out t' h1 (by omega)
      · have hc0 := cell_of (j := 0) hblk rfl
        have HG : Hid (∀ t', 1 ≤ t' → t' < t → go t' = true) := hgo
        have HT : Hid (t = off cn n) := ht
        clear hgo ht
        go_wp2
        refine bodyPost_end (v := .tuple #[]) (results_none rfl _ _ _) rfl ?_
        exact ⟨rfl, ⟨t, hst, ht1, by rw [HT.out]; exact Nat.le_refl _, fun t' h1 h2 => HG.out t' h1 (by omega), fun h => by have := HT.out; omega⟩, hfr⟩
  · go_wp2
    refine wp_loop_rounds 1 ?_
    rw [rounds_succ]
    have HT : Hid (1 = off cn n) := ht
    clear ht
    go_wp2
    refine bodyPost_end (v := .tuple #[]) (results_none rfl _ _ _) rfl ?_
    exact ⟨rfl, ⟨1, hbel _ _ _ t2 ((below_alloc _ _).mono r2.size), Nat.le_refl _, by rw [← HT.out]; exact Nat.le_refl _, fun t' h1 h2 => by omega, fun h => by have := HT.out; omega⟩, r2.alloc _⟩
set_option maxHeartbeats 4000000 in
theorem spans8 (n : Nat) (lb cn : Nat → Nat) (hn : 0 < n) (hcn : ∀ i, 0 < cn i ∧ cn i ≤ 16) (St : Nat → World → Prop) (X : Nat → Prop) (go : Nat → Bool)
    (hchain : ∀ t w, St t w → Chain w n lb cn)
    (c0 c1 : Value)
    (hcall : ∀ i k w, i < n → k < cn i → 0 < off cn i + k → St (off cn i + k) w → Calls Yba.prog 8 #[.agg #[.pointer (some ⟨lb i, 0, none⟩), .int .i64 (place i k)], .pointer (some ⟨lb i, 25 + place i k * 11, none⟩), c0, c1] w
      fun e w' => e = .returned (.bool (go (off cn i + k))) ∧ St (off cn i + k + 1) w' ∧ Fr X w w')
    (w : World) (hbel : ∀ t a b, St t a → Below w.heap.size a b → St t b) (hX : ∀ k, X k → k < w.heap.size) (B S : Nat) (hB : w.cell? ⟨B, 0, none⟩ = some (.pointer (some ⟨S, 0, none⟩))) (hS : w.cell? ⟨S, 3, none⟩ = some (.pointer (some ⟨lb 0, 0, none⟩))) (h1 : St 1 w) :
    Calls Yba.prog 16 #[.func (.func 8) #[] #[c0, c1], .pointer (some ⟨B, 0, none⟩)] w fun e w' => e = .returned (.tuple #[]) ∧ Stops St go (off cn n) w' ∧ Fr X w w' := by
  go_enter Yba.func16, Yba.ntmps16
  go_wp2_with fail
  refine (head_any _ S (lb 0) hS).mono ?_
  rintro e w1 ⟨rfl, b1⟩
  have t1 : St 1 w1 := hbel _ _ _ h1 b1
  go_wp2_with fail
  refine (next_pos _ n lb cn hcn (hchain _ _ t1) 0 0 hn (hcn 0).1 0 rfl).mono ?_
  rintro e w2 ⟨⟨v, rfl, hv⟩, b2⟩
  have t2 : St 1 w2 := hbel _ _ _ t1 (b2.mono b1.size)
  have r2 : Fr X w w2 := (Fr.of_below b1 X).trans (Fr.of_below b2 X)
  clear b1 b2 t1
  rcases hv with ⟨i, k, hi, hk, ht, rfl⟩ | ⟨ht, rfl⟩
  · go_wp2
    go_loopg [3] (off cn n) (fun gk p wr => ∃ A t, p = .pointer (some ⟨A, 0, none⟩) ∧ AtLoop n lb cn St X go w A t gk wr)
    case atStart =>
      refine ⟨w2.heap.size, 1, rfl, .inl ⟨i, k, hi, hk, by rw [← ht]; rfl, ?_⟩, r2.size, hbel _ _ _ t2 ((below_alloc _ _).mono r2.size), r2.alloc _, Nat.le_refl _, fun t' h1 h2 => by omega, by omega⟩
      rw [heap_alloc, if_pos rfl]
    case round =>
      obtain ⟨A, t, rfl, hp, hA, hst, hfr, ht1, hgo, hgk⟩ := hrel
      rcases hp with ⟨i, k, hi, hk, ht, hblk⟩ | ⟨ht, hblk⟩
      · have hc0 := cell_of (j := 0) hblk rfl
        have hc1 := cell_of (j := 1) hblk rfl
        have hpl := place_lt i k
        have hlt : t < off cn n := by
          have h1 := off_mono cn (Nat.succ_le_of_lt hi)
          have h2 : off cn (i + 1) = off cn i + cn i := rfl
          have h3 : off cn (i.succ) = off cn (i + 1) := rfl
          omega
        have hAX : ¬ X A := fun h => by have := hX A h; omega
        have hc7 := fun w h => hcall i k w hi hk (by omega) h
        rw [← ht] at hc7
        have HT : Hid (t = off cn i + k) := ht
        have HG : Hid (∀ t', 1 ≤ t' → t' < t → go t' = true) := hgo
        clear ht hgo
        cases hg : go t with
        | false =>
          rw [hg] at hc7
          have Hg := Hid.mk' hg
          clear hg
          go_wp2
          go_region_with (first | (go_at_call 19; refine (span_any _ (lb i) (place i k) hpl).mono ?_; rintro e w3 ⟨rfl, b3⟩; have b3' : Below wr.heap.size wr w3 := ⟨b3.os, b3.tape, b3.output, b3.size, b3.block⟩; clear b3; have d0 := Below.cellAt b3' hc0; have d1 := Below.cellAt b3' hc1; have hst3 := hbel _ _ _ hst (b3'.mono hfr.size); have fr3 := hfr.trans (Fr.of_below b3' X); have blk3 := (b3'.block A (lt_of_some hblk)).trans hblk; clear b3') | (go_at_call 8; refine (hc7 _ (by assumption)).mono ?_; rintro e w4 ⟨rfl, hst4, fr4⟩))
          all_goals
            go_wp2
            refine bodyPost_ret (v := .tuple #[]) (results_none rfl _ _ _) rfl ?_
            exact ⟨rfl, ⟨t + 1, hst4, by omega, by omega, fun t' h1 h2 => HG.out t' h1 (by omega), fun _ => ⟨by omega, Hg.out⟩⟩, fr3.trans fr4⟩
        | true =>
          rw [hg] at hc7
          have Hg := Hid.mk' hg
          clear hg
          go_wp2
          go_region_with (first | (go_at_call 19; refine (span_any _ (lb i) (place i k) hpl).mono ?_; rintro e w3 ⟨rfl, b3⟩; have b3' : Below wr.heap.size wr w3 := ⟨b3.os, b3.tape, b3.output, b3.size, b3.block⟩; clear b3; have d0 := Below.cellAt b3' hc0; have d1 := Below.cellAt b3' hc1; have hst3 := hbel _ _ _ hst (b3'.mono hfr.size); have fr3 := hfr.trans (Fr.of_below b3' X); have blk3 := (b3'.block A (lt_of_some hblk)).trans hblk; clear b3') | (go_at_call 8; refine (hc7 _ (by assumption)).mono ?_; rintro e w4 ⟨rfl, hst4, fr4⟩))
          all_goals
            have blk4 : w4.heap[A]? = some (.cells #[.pointer (some ⟨lb i, 0, none⟩), .int .i64 (place i k)] 55 (0, 0)) := (fr4.block A (lt_of_some blk3) hAX).trans blk3
            have e0 := cell_of (j := 0) blk4 rfl
            have e1 := cell_of (j := 1) blk4 rfl
            have fr := fr3.trans fr4
            clear fr3 fr4 blk3 d0 d1 hst3 hblk hc0 hc1
            go_wp2_with fail
            refine (next_pos _ n lb cn hcn (hchain _ _ (hbel _ _ _ hst4 ((below_alloc _ _).mono fr.size))) i k hi hk _ rfl).mono ?_
            rintro e w5 ⟨⟨v, rfl, hv⟩, b5⟩
            have fr5 : Fr X w w5 := (fr.alloc _).trans (Fr.of_below b5 X)
            have st5 : St (t + 1) w5 := hbel _ _ _ (hbel _ _ _ hst4 ((below_alloc _ _).mono fr.size)) (b5.mono (by rw [size_alloc]; exact Nat.le_succ_of_le fr.size))
            have blk5 : w5.heap[w4.heap.size]? = some (.cells #[.pointer (some ⟨lb i, 0, none⟩), .int .i64 (place i k)] 55 (0, 0)) := (b5.block _ (by rw [size_alloc]; omega)).trans (by rw [heap_alloc, if_pos rfl])
            have s4 : w.heap.size ≤ w4.heap.size := fr.size
            have hnX : ¬ X w4.heap.size := fun h => by have := hX _ h; omega
            clear b5 fr blk4 e0 e1 hst4
            have f0 : w5.frozen? ⟨w4.heap.size, 0, none⟩ = false := free_of blk5
            have f1 : w5.frozen? ⟨w4.heap.size, 1, none⟩ = false := free_of blk5
            have g0 := cell_of (j := 0) blk5 rfl
            have g1 := cell_of (j := 1) blk5 rfl
            generalize w4.heap.size = N at *
            rw [← HT.out] at hv
            rcases hv with ⟨i', k', hi', hk', ht', rfl⟩ | ⟨ht', rfl⟩
            · go_wp2
              go_roundg (gk - 1)
              case measure => omega
              case rel =>
                refine ⟨N, t + 1, rfl, .inl ⟨i', k', hi', hk', ht', by rw [heap_setCell_same (heap_setCell_same blk5)]; rfl⟩, s4, hbel _ _ _ st5 (((Below.refl _ _).setCell s4 _).setCell s4 _), (fr5.setNew s4 _ _).setNew s4 _ _, by omega, fun t' h1 h2 => ?_, by omega⟩
                by_cases e : t' = t
                · rw [e]; exact Hg.out
                · exact HG.out t' h1 (by omega)
            · go_wp2
              go_roundg (gk - 1)
              case measure => omega
              case rel =>
                refine ⟨N, t + 1, rfl, .inr ⟨ht', by rw [heap_setCell_same (heap_setCell_same blk5)]; rfl⟩, s4, hbel _ _ _ st5 (((Below.refl _ _).setCell s4 _).setCell s4 _), (fr5.setNew s4 _ _).setNew s4 _ _, by omega, fun t' h1 h2 => ?_, by omega⟩
                by_cases e : t' = t
                · rw [e]; exact Hg.out
                · exact HG.out t' h1 (by omega)
      · have hc0 := cell_of (j := 0) hblk rfl
        have HG : Hid (∀ t', 1 ≤ t' → t' < t → go t' = true) := hgo
        have HT : Hid (t = off cn n) := ht
        clear hgo ht
        go_wp2
        refine bodyPost_end (v := .tuple #[]) (results_none rfl _ _ _) rfl ?_
        exact ⟨rfl, ⟨t, hst, ht1, by rw [HT.out]; exact Nat.le_refl _, fun t' h1 h2 => HG.out t' h1 (by omega), fun h => by have := HT.out; omega⟩, hfr⟩
  · go_wp2
    refine wp_loop_rounds 1 ?_
    rw [rounds_succ]
    have HT : Hid (1 = off cn n) := ht
    clear ht
    go_wp2
    refine bodyPost_end (v := .tuple #[]) (results_none rfl _ _ _) rfl ?_
    exact ⟨rfl, ⟨1, hbel _ _ _ t2 ((below_alloc _ _).mono r2.size), Nat.le_refl _, by rw [← HT.out]; exact Nat.le_refl _, fun t' h1 h2 => by omega, fun h => by have := HT.out; omega⟩, r2.alloc _⟩
end Go.Proofs.Ybulkcftm

import Derived.Test.YbulkcfriRows
import Derived.WalkKit
import Derived.ProofKit
import Derived.WalkSpells
import Derived.Orders
namespace Go.Proofs.Ybulkcfri
open Go.ChangeShapes Go.WideShapes Go.ChangeAt Go.RowKit

/-! ### A region that draws its order, by an invariant: whatever is ready keeps it -/
theorem countP_set_lt (l : List Bool) (i : Nat) (h : l[i]? = some false) : (l.set i true).countP (fun b => !b) + 1 = l.countP (fun b => !b) := by
  induction l generalizing i with
  | nil => simp at h
  | cons b l ih =>
    cases i with
    | zero =>
      simp at h
      subst h
      simp
    | succ i =>
      simp at h
      have := ih i h
      simp only [List.set_cons_succ, List.countP_cons]
      omega

theorem wpAny_inv {P : Program} {ops : Array Oper} {Q : Exit → Act → World → Prop} (I : Array Bool → Act → World → Prop)
    (hsize : ∀ listed a w, I listed a w → listed.size = ops.size)
    (step : ∀ listed a w, I listed a w → ∀ i, i ∈ Region.ready .any ops listed → wpOp P ops Q i (fun a' w' => I (listed.setIfInBounds i true) a' w') a w)
    (fin : ∀ listed a w, I listed a w → Region.ready .any ops listed = [] → Q .normal a w) :
    ∀ (fuel : Nat) (listed : Array Bool) (a : Act) (w : World), listed.toList.countP (fun b => !b) ≤ fuel → I listed a w → wpAny P .any ops Q fuel listed a w := by
  intro fuel
  induction fuel with
  | zero =>
    intro listed a w hc hI
    have hr : Region.ready .any ops listed = [] := by
      rw [List.eq_nil_iff_forall_not_mem]
      intro i hi
      obtain ⟨h0, o, ho, _⟩ := mem_ready.1 hi
      have hlt : i < listed.size := by rw [hsize _ _ _ hI]; exact (Array.getElem?_eq_some_iff.1 ho).1
      have hmem : false ∈ listed.toList := by
        have : listed[i]? = some false := by simpa [hlt] using h0
        exact Array.mem_toList_iff.2 (Array.mem_of_getElem? this)
      have : 0 < listed.toList.countP (fun b => !b) := List.countP_pos_iff.2 ⟨false, hmem, rfl⟩
      omega
    exact ⟨hr, fin _ _ _ hI hr⟩
  | succ fuel ih =>
    intro listed a w hc hI
    refine ⟨fun hr => fin _ _ _ hI hr, fun i hi => ?_⟩
    refine wpOp_mono (fun a' w' h => ih _ a' w' ?_ h) (step listed a w hI i hi)
    obtain ⟨h0, o, ho, _⟩ := mem_ready.1 hi
    have hlt : i < listed.size := by rw [hsize _ _ _ hI]; exact (Array.getElem?_eq_some_iff.1 ho).1
    have : listed.toList[i]? = some false := by simpa [hlt] using h0
    have := countP_set_lt listed.toList i this
    simp only [Array.toList_setIfInBounds]
    omega
theorem countP_replicate_false (n : Nat) : (Array.replicate n false).toList.countP (fun b => !b) ≤ n := by
  have h := List.countP_le_length (p := fun b => !b) (l := (Array.replicate n false).toList)
  simpa using h
theorem wp_region_inv {P : Program} {ops : Array Oper} {Q : Exit → Act → World → Prop} {id : Nat} {a : Act} {w : World} (hm : P.follows .mixedOrders = true) (I : Array Bool → Act → World → Prop)
    (hsize : ∀ listed a w, I listed a w → listed.size = ops.size)
    (step : ∀ listed a w, I listed a w → ∀ i, i ∈ Region.ready .any ops listed → wpOp P ops Q i (fun a' w' => I (listed.setIfInBounds i true) a' w') a w)
    (fin : ∀ listed a w, I listed a w → Region.ready .any ops listed = [] → Q .normal a w)
    (start : I (Array.replicate ops.size false) a w.drew) : (Code.region id ops true).wp P Q a w :=
  wp_region_any hm (wpAny_inv I hsize step fin _ _ _ _ (countP_replicate_false _) start)

/-- Every edge leads back in the text: then a region of which nothing is ready is done. -/
theorem all_listed {ops : Array Oper} {listed : Array Bool} (hsize : listed.size = ops.size)
    (hord : (List.range ops.size).all (fun i => ((ops[i]?).map fun o => o.after.all fun e => decide (e.on < i)).getD true) = true)
    (hr : Region.ready .any ops listed = []) : ∀ i, i < ops.size → listed.getD i false = true := by
  intro i
  induction i using Nat.strongRecOn with
  | ind i ih =>
    intro hi
    cases hl : listed.getD i false with
    | true => rfl
    | false =>
      exfalso
      have hmem : i ∈ Region.ready .any ops listed := by
        rw [mem_ready]
        refine ⟨?_, ops[i], Array.getElem?_eq_getElem hi, fun e he _ => ?_⟩
        · have hi' : i < listed.size := by omega
          simp [hi'] at hl ⊢
          exact hl
        · have h1 := List.all_eq_true.1 hord i (List.mem_range.2 hi)
          simp only [Array.getElem?_eq_getElem hi, Option.map_some, Option.getD_some] at h1
          have h2 := Array.all_eq_true_iff_forall_mem.1 h1 e he
          have h3 : e.on < i := by simpa using h2
          exact ih e.on h3 (by omega)
      rw [hr] at hmem
      cases hmem

theorem all_listed' {ops : Array Oper} {listed : Array Bool} (hsize : listed.size = ops.size - 1) (hord : ∀ (j : Nat) (oj : Oper), ops[j]? = some oj → ∀ e ∈ oj.after, Region.binds .any e = true → e.on < j)
    (hr : Region.ready .any ops.pop listed = []) : ∀ i, i < ops.size - 1 → listed.getD i false = true := by
  intro i
  induction i using Nat.strongRecOn with
  | ind i ih =>
    intro hi
    cases hl : listed.getD i false with
    | true => rfl
    | false =>
      exfalso
      have hi2 : i < ops.size := by omega
      have hpop : ops.pop[i]? = some ops[i] := by rw [Array.getElem?_pop]; simp [hi, hi2]
      have hmem : i ∈ Region.ready .any ops.pop listed := by
        rw [mem_ready]
        refine ⟨?_, ops[i], hpop, fun e he hb => ?_⟩
        · have hi' : i < listed.size := by omega
          simp [hi'] at hl ⊢
          exact hl
        · have h3 := hord i ops[i] (Array.getElem?_eq_getElem hi2) e he hb
          exact ih e.on h3 (by omega)
      rw [hr] at hmem
      cases hmem

theorem getD_rep (n i : Nat) : (Array.replicate n false).getD i false = false := by
  by_cases h : i < n <;> simp [h]

/-! ### A region that draws its order, whose last operation waits for all the others: the others first, then the last -/
def preds (ops : Array Oper) (i : Nat) : List Nat := ((ops[i]?).map fun o => (o.after.toList.filter (Region.binds .any)).map (·.on)).getD []
def closure (ops : Array Oper) : Nat → List Nat → List Nat
  | 0, l => l
  | k + 1, l => closure ops k (l ++ (l.flatMap (preds ops))).eraseDups
theorem closure_all {ops : Array Oper} (L : Nat → Prop) (hL : ∀ j, L j → ∀ e ∈ preds ops j, L e) : ∀ (k : Nat) (l : List Nat), (∀ e ∈ l, L e) → ∀ e ∈ closure ops k l, L e
  | 0, _, h => h
  | k + 1, l, h => closure_all L hL k _ fun e he => by
      rw [List.mem_eraseDups, List.mem_append, List.mem_flatMap] at he
      rcases he with he | ⟨j, hj, he⟩
      · exact h e he
      · exact hL j (h j hj) e he
theorem mem_preds {ops : Array Oper} {i : Nat} {o : Oper} (ho : ops[i]? = some o) (e : Nat) : e ∈ preds ops i ↔ ∃ x ∈ o.after, Region.binds .any x = true ∧ x.on = e := by
  simp only [preds, ho, Option.map_some, Option.getD_some, List.mem_map, List.mem_filter, Array.mem_toList_iff]
  constructor
  · rintro ⟨x, ⟨h1, h2⟩, h3⟩; exact ⟨x, h1, h2, h3⟩
  · rintro ⟨x, h1, h2, h3⟩; exact ⟨x, ⟨h1, h2⟩, h3⟩

theorem yielded_pop {ops : Array Oper} {tmps : Array Value} {j : Nat} (hj : j < ops.size - 1) : yielded ops.pop tmps j = yielded ops tmps j := by
  unfold yielded
  have : ops.pop[j]? = ops[j]? := by rw [Array.getElem?_pop]; simp [hj]
  rw [this]

/-- Where Q is left as it is but for 'normal'. -/
def thenLast (P : Program) (o : Oper) (Q : Exit → Act → World → Prop) : Exit → Act → World → Prop
  | .normal, a, w => Oper.wp P o a w (Q .normal) Q
  | e, a, w => Q e a w

theorem LetsOut_thenLast {P : Program} {o : Oper} {Q : Exit → Act → World → Prop} (h : LetsOut (thenLast P o Q)) : LetsOut Q := h

theorem upon_thenLast {P : Program} {o o' : Oper} {Q : Exit → Act → World → Prop} {a : Act} {K : Act → World → Prop} {r : Result Next} (h : o'.upon P a K (thenLast P o Q) r) : o'.upon P a K Q r := by
  cases r with
  | ok n w' =>
    cases n <;> simp only [Oper.upon] at h ⊢ <;> first | exact h | exact Calls.mono h (fun e w'' he => by cases e <;> exact he)
  | halt x w' => cases x <;> simp only [Oper.upon] at h ⊢ <;> exact h

theorem wpAny_last {P : Program} {ops : Array Oper} {Q : Exit → Act → World → Prop} {o : Oper} (hpos : 0 < ops.size) (ho : ops[ops.size - 1]? = some o) (hg : o.guard = none)
    (hgd : ∀ (j : Nat) (oj : Oper), ops[j]? = some oj → ∀ g, oj.guard = some g → g.1 < ops.size - 1)
    (hord : ∀ (j : Nat) (oj : Oper), ops[j]? = some oj → ∀ e ∈ oj.after, Region.binds .any e = true → e.on < j)
    (k : Nat) (hcl : ∀ j, j < ops.size - 1 → j ∈ closure ops k (preds ops (ops.size - 1))) :
    ∀ (fuel : Nat) (listed : Array Bool) (a : Act) (w : World), listed.size = ops.size - 1 → (∀ j, listed.getD j false = true → ∀ e ∈ preds ops j, listed.getD e false = true) →
      wpAny P .any ops.pop (thenLast P o Q) fuel listed a w → wpAny P .any ops Q (fuel + 1) (listed.push false) a w := by
  have hpop : ∀ j, j < ops.size - 1 → ops.pop[j]? = ops[j]? := fun j hj => by rw [Array.getElem?_pop]; simp [hj]
  have hpg : ∀ (listed : Array Bool) (j : Nat) (d : Bool), listed.size = ops.size - 1 → j < ops.size - 1 → (listed.push false).getD j d = listed.getD j d := by
    intro listed j d hs hj
    simp [Array.getElem?_push, show ¬ j = listed.size by omega]
  -- what is ready among the first
  have hready : ∀ (listed : Array Bool) (j : Nat), listed.size = ops.size - 1 → j < ops.size - 1 → (j ∈ Region.ready .any ops (listed.push false) ↔ j ∈ Region.ready .any ops.pop listed) := by
    intro listed j hs hj
    rw [mem_ready, mem_ready, hpop j hj, hpg listed j true hs hj]
    constructor
    · rintro ⟨h0, oj, hoj, hall⟩
      refine ⟨h0, oj, hoj, fun e he hb => ?_⟩
      have := hall e he hb
      rwa [hpg listed e.on false hs (by have := hord j oj hoj e he hb; omega)] at this
    · rintro ⟨h0, oj, hoj, hall⟩
      refine ⟨h0, oj, hoj, fun e he hb => ?_⟩
      rw [hpg listed e.on false hs (by have := hord j oj hoj e he hb; omega)]
      exact hall e he hb
  -- the last is ready: then all the others have come up
  have hlast : ∀ (listed : Array Bool), listed.size = ops.size - 1 → (∀ j, listed.getD j false = true → ∀ e ∈ preds ops j, listed.getD e false = true) → ops.size - 1 ∈ Region.ready .any ops (listed.push false) →
      Region.ready .any ops.pop listed = [] := by
    intro listed hs hdown hmem
    obtain ⟨h0, o', ho', hall⟩ := mem_ready.1 hmem
    rw [ho] at ho'
    cases ho'
    have hallL : ∀ j, j < ops.size - 1 → listed.getD j false = true := by
      intro j hj
      refine closure_all (ops := ops) (fun j => listed.getD j false = true) hdown k (preds ops (ops.size - 1)) ?_ j (hcl j hj)
      intro e he
      obtain ⟨x, hx, hb, rfl⟩ := (mem_preds ho e).1 he
      have h1 := hall x hx hb
      have h2 := hord _ o ho x hx hb
      rwa [hpg listed x.on false hs h2] at h1
    rw [List.eq_nil_iff_forall_not_mem]
    intro j hj
    obtain ⟨h1, oj, hoj, _⟩ := mem_ready.1 hj
    have hjl : j < ops.size - 1 := by simpa using (Array.getElem?_eq_some_iff.1 hoj).1
    have h2 := hallL j hjl
    have hjs : j < listed.size := by omega
    simp [hjs] at h1 h2
    rw [h1] at h2
    cases h2
  have hdone : ∀ (listed : Array Bool) (a : Act) (w : World), thenLast P o Q .normal a w → wpOp P ops Q (ops.size - 1) (wpAny P .any ops Q 0 ((listed.push false).setIfInBounds (ops.size - 1) true)) a w → True := fun _ _ _ _ _ => trivial
  clear hdone
  -- what comes behind the last
  have hfin : ∀ (listed : Array Bool) (fuel : Nat), listed.size = ops.size - 1 → Region.ready .any ops.pop listed = [] → Region.ready .any ops ((listed.push false).setIfInBounds (ops.size - 1) true) = [] := by
    intro listed fuel hs hr
    rw [List.eq_nil_iff_forall_not_mem]
    intro j hj
    obtain ⟨h0, oj, hoj, hall⟩ := mem_ready.1 hj
    have hjs : j < ops.size := (Array.getElem?_eq_some_iff.1 hoj).1
    by_cases hjl : j = ops.size - 1
    · subst hjl
      simp [hs] at h0
    · have hjl' : j < ops.size - 1 := by omega
      have : j ∈ Region.ready .any ops.pop listed := by
        rw [← hready listed j hs hjl', mem_ready]
        refine ⟨by rwa [getD_set_ne true (Ne.symm hjl)] at h0, oj, hoj, fun e he hb => ?_⟩
        have h1 := hall e he hb
        rwa [getD_set_ne false (by have := hord j oj hoj e he hb; omega)] at h1
      rw [hr] at this
      cases this
  intro fuel
  induction fuel with
  | zero =>
    intro listed a w hs hdown h
    obtain ⟨hr, hq⟩ := h
    refine ⟨fun h0 => ?_, fun i hi => ?_⟩
    · exfalso
      have : ops.size - 1 ∈ Region.ready .any ops (listed.push false) := by
        rw [mem_ready]
        refine ⟨by simp [← hs], o, ho, fun e he hb => ?_⟩
        have he' := hord _ o ho e he hb
        rw [hpg listed e.on false hs he']
        exact all_listed' hs hord hr e.on he'
      rw [h0] at this
      cases this
    · by_cases hil : i = ops.size - 1
      · subst hil
        unfold wpOp
        simp only [ho]
        rw [if_pos (by simp [Region.wanted, hg])]
        refine .inl (Oper.wp_mono (fun a' w' h' => ⟨hfin listed 0 hs hr, h'⟩) hq)
      · have hmem := mem_ready.1 hi
        obtain ⟨_, oi, hoi, _⟩ := hmem
        have : i < ops.size := (Array.getElem?_eq_some_iff.1 hoi).1
        have h1 := (hready listed i hs (by omega)).1 hi
        rw [hr] at h1
        cases h1
  | succ fuel ih =>
    intro listed a w hs hdown h
    obtain ⟨h0, h1⟩ := h
    refine ⟨fun hr => ?_, fun i hi => ?_⟩
    · exfalso
      have hr' : Region.ready .any ops.pop listed = [] := by
        rw [List.eq_nil_iff_forall_not_mem]
        intro j hj
        have hjl : j < ops.size - 1 := by
          obtain ⟨_, oj, hoj, _⟩ := mem_ready.1 hj
          simpa using (Array.getElem?_eq_some_iff.1 hoj).1
        have := (hready listed j hs hjl).2 hj
        rw [hr] at this
        cases this
      have : ops.size - 1 ∈ Region.ready .any ops (listed.push false) := by
        rw [mem_ready]
        refine ⟨by simp [← hs], o, ho, fun e he hb => ?_⟩
        have he' := hord _ o ho e he hb
        rw [hpg listed e.on false hs he']
        exact all_listed' hs hord hr' e.on he'
      rw [hr] at this
      cases this
    · by_cases hil : i = ops.size - 1
      · subst hil
        have hr' := hlast listed hs hdown hi
        have hq := h0 hr'
        unfold wpOp
        simp only [ho]
        rw [if_pos (by simp [Region.wanted, hg])]
        refine .inl (Oper.wp_mono (fun a' w' h' => wpAny_done (hfin listed 0 hs hr') h' _) hq)
      · obtain ⟨_, oi, hoi, halli⟩ := mem_ready.1 hi
        have hisz : i < ops.size := (Array.getElem?_eq_some_iff.1 hoi).1
        have hil' : i < ops.size - 1 := by omega
        have h2 := h1 i ((hready listed i hs hil').1 hi)
        have hK : ∀ a' w', wpAny P .any ops.pop (thenLast P o Q) fuel (listed.setIfInBounds i true) a' w' → wpAny P .any ops Q (fuel + 1) ((listed.push false).setIfInBounds i true) a' w' := by
          intro a' w' h'
          have e1 : (listed.push false).setIfInBounds i true = (listed.setIfInBounds i true).push false := by
            apply Array.toList_inj.1
            simp [List.set_append]
            intro hh; omega
          rw [e1]
          refine ih _ a' w' (by simpa using hs) ?_ h'
          intro j hj e he
          rcases Nat.decEq j i with hji | hji
          · have hj' : listed.getD j false = true := by rwa [getD_set_ne false (Ne.symm hji)] at hj
            exact getD_set_true (hdown j hj' e he)
          · subst hji
            obtain ⟨x, hx, hb, rfl⟩ := (mem_preds hoi e).1 he
            have h3 := halli x hx hb
            have h4 := hord j oi hoi x hx hb
            rw [hpg listed x.on false hs (by omega)] at h3
            exact getD_set_true h3
        unfold wpOp at h2 ⊢
        rw [hpop i hil'] at h2
        simp only [hoi] at h2 ⊢
        have hwant : Region.wanted oi (yielded ops.pop a.tmps) = Region.wanted oi (yielded ops a.tmps) := by
          unfold Region.wanted
          cases hgi : oi.guard with
          | none => rfl
          | some g => simp only; rw [yielded_pop (hgd i oi hoi g hgi)]
        rw [hwant] at h2
        split
        · rename_i hw
          rw [if_pos hw] at h2
          rcases h2 with h2 | ⟨h2, h3⟩
          · exact .inl (Oper.wp_mono hK (upon_thenLast h2))
          · exact .inr ⟨h2, h3⟩
        · rename_i hw
          rw [if_neg hw] at h2
          exact hK _ _ h2

def lastOk (ops : Array Oper) (k : Nat) : Bool :=
  decide (0 < ops.size) && ((ops[ops.size - 1]?).map fun o => o.guard.isNone).getD false &&
  (List.range ops.size).all (fun j => ((ops[j]?).map fun oj => (oj.guard.all fun g => decide (g.1 < ops.size - 1)) && oj.after.all fun e => decide (e.on < j)).getD true) &&
  (List.range (ops.size - 1)).all (fun j => (closure ops k (preds ops (ops.size - 1))).contains j)

theorem wp_region_last {P : Program} {ops : Array Oper} {Q : Exit → Act → World → Prop} {id : Nat} {a : Act} {w : World} (hm : P.follows .mixedOrders = true) (k : Nat) (hok : lastOk ops k = true) {o : Oper} (ho : ops[ops.size - 1]? = some o)
    (h : wpAny P .any ops.pop (thenLast P o Q) ops.pop.size (Array.replicate ops.pop.size false) a w.drew) : (Code.region id ops true).wp P Q a w := by
  simp only [lastOk, Bool.and_eq_true, decide_eq_true_eq] at hok
  obtain ⟨⟨⟨hpos, hg⟩, hr⟩, hc⟩ := hok
  simp only [ho, Option.map_some, Option.getD_some, Option.isNone_iff_eq_none] at hg
  rw [List.all_eq_true] at hr hc
  refine wp_region_any hm ?_
  have hr' : ∀ (j : Nat) (oj : Oper), ops[j]? = some oj → (oj.guard.all fun g => decide (g.1 < ops.size - 1)) = true ∧ (oj.after.all fun e => decide (e.on < j)) = true := by
    intro j oj hj
    have h1 := hr j (List.mem_range.2 (Array.getElem?_eq_some_iff.1 hj).1)
    simpa [hj] using h1
  have := wpAny_last (P := P) (Q := Q) hpos ho hg
    (fun j oj hj g hgj => by have h1 := (hr' j oj hj).1; rw [hgj] at h1; simpa using h1)
    (fun j oj hj e he _ => by have h1 := Array.all_eq_true_iff_forall_mem.1 (hr' j oj hj).2 e he; simpa using h1)
    k (fun j hj => by have h1 := hc j (List.mem_range.2 hj); simpa using h1) ops.pop.size (Array.replicate ops.pop.size false) a w.drew (by simp) (by
      intro j hj; rw [getD_rep] at hj; cases hj) h
  have e1 : (Array.replicate ops.pop.size false).push false = Array.replicate ops.size false := by
    apply Array.ext
    · simp; omega
    · intro i h1 h2
      simp [Array.getElem_push]
  have e2 : ops.pop.size + 1 = ops.size := by simp; omega
  rw [e1, e2] at this
  exact this

/-- An operation that gives a value. -/
theorem wpOp_value {P : Program} {ops : Array Oper} {Q : Exit → Act → World → Prop} {i : Nat} {o : Oper} {K : Act → World → Prop} {a : Act} {w w' : World} {v : Value}
    (ho : ops[i]? = some o) (hg : o.guard = none) (hrun : (execOp a.eval o).run P w = .ok (.value v) w') (hK : K (a.put o.dst v) w') : wpOp P ops Q i K a w := by
  unfold wpOp
  simp only [ho]
  rw [if_pos (by simp [Region.wanted, hg])]
  refine .inl ?_
  simp only [Oper.wp, hrun, Oper.upon]
  exact hK
end Go.Proofs.Ybulkcfri

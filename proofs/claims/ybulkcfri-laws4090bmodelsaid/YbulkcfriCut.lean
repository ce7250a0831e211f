import Derived.Test.YbulkcfriShows
import Derived.ArgAppend
import Derived.Deep.Upon
namespace Go.Proofs.Ybulkcfri
open Go.ChangeShapes Go.WideShapes Go.ChangeAt Go.RowKit Go.MuLone
/-- A slice that may begin inside its row: 'fl = fl[1:]'. -/
def CutRow (w : World) (base : Nat) (e : TypeId) (size : Nat) (v : Value) (n : Nat) (xs : List Value) : Prop :=
  xs.length = n * size ∧ ((v = .slice none 0 0 ∧ n = 0) ∨ ∃ g off cap cur, v = .slice (some ⟨g, off, none⟩) n cap ∧ base ≤ g ∧ w.heap[g]? = some (.cells cur e (0, 0)) ∧ n ≤ cap ∧ cap ≤ maxLen ∧ off + cap * size ≤ cur.size ∧ (cur.toList.drop off).take (n * size) = xs)
section
variable {w : World} {base : Nat} {e : TypeId} {size : Nat} {v : Value} {n : Nat} {xs : List Value}
theorem cut_own (h : w.ownsRow base e size v n xs) : CutRow w base e size v n xs := by
  refine ⟨h.1, ?_⟩
  rcases h.2 with hn | ⟨g, cap, cur, rfl, hb, hg, hc, hm, hs, ht⟩
  · exact .inl hn
  · exact .inr ⟨g, 0, cap, cur, rfl, hb, hg, hc, hm, by rw [hs]; omega, by simpa using ht⟩
theorem cut_tag (h : CutRow w base e size v n xs) {g : Nat} (hg : v.ownBlock = some g) : ∃ cur, w.heap[g]? = some (.cells cur e (0, 0)) := by
  rcases h.2 with ⟨rfl, _⟩ | ⟨g', off, cap, cur, rfl, hb, hh, _⟩
  · cases hg
  · cases hg; exact ⟨cur, hh⟩
theorem cut_B (h : CutRow w base e size v n xs) {g : Nat} (hg : v.ownBlock = some g) : base ≤ g := by
  rcases h.2 with ⟨rfl, _⟩ | ⟨g', off, cap, cur, rfl, hb, hh, _⟩
  · cases hg
  · cases hg; exact hb
theorem cut_lt (h : CutRow w base e size v n xs) {g : Nat} (hg : v.ownBlock = some g) : g < w.heap.size := by
  obtain ⟨cu, hh⟩ := cut_tag h hg
  exact lt_of_some hh
theorem cut_fr {X : Nat → Prop} {w' : World} (h : CutRow w base e size v n xs) (hf : Fr X w w') (hx : ∀ g, v.ownBlock = some g → ¬ X g) : CutRow w' base e size v n xs := by
  refine ⟨h.1, ?_⟩
  rcases h.2 with hn | ⟨g, off, cap, cur, rfl, hb, hgg, rest⟩
  · exact .inl hn
  · exact .inr ⟨g, off, cap, cur, rfl, hb, (hf.block g (lt_of_some hgg) (hx g rfl)).trans hgg, rest⟩
theorem cut_slice (h : CutRow w base e size v n xs) : ∃ a c, v = .slice a n c := by
  rcases h.2 with ⟨rfl, rfl⟩ | ⟨g, off, cap, cur, rfl, _⟩
  · exact ⟨_, _, rfl⟩
  · exact ⟨_, _, rfl⟩
end
theorem setCells_row {w : World} {g o : Nat} {cs : List Value} {cur : Array Value} {t : TypeId} (hh : w.heap[g]? = some (.cells cur t (0, 0))) (hfit : o + cs.length ≤ cur.size) (h1 : ∀ v ∈ cs, v.oneCell' = true) : w.setCells g o cs = w.setRow g (splice cur.toList o cs).toArray := by
  have a1 := run_storeCells_at Yba.prog g o t cs 0 cur w hh (by simpa using hfit) h1
  have a2 := run_storeCells_cells (P := Yba.prog) g o cs 0 w (fun j hj => by
    have : o + 0 + j < cur.size := by omega
    rw [cell_of hh (Array.getElem?_eq_getElem this)]; rfl) (fun j _ => free_of hh) h1
  rw [a1] at a2
  injection a2 with _ a2
  simp only [Nat.add_zero] at a2
  rw [← a2]
  simp [splice]
theorem run_append_cut {P : Program} (w : World) (base : Nat) (t ty e : TypeId) (i : TypeInfo) (z : Value) (size bytes : Nat) (ht : P.underlying t = some (.slice e)) (hi : P.info? e = some i) (hz : i.zero = some z)
    (hsize : i.size = size) (hby : i.bytes = bytes) (hzs : z.cells.size = size) (hsz : 0 < size)
    (v : Value) (n : Nat) (xs : List Value) (hown : CutRow w base e size v n xs)
    (a : Addr) (m c : Nat) (news : List Value) (hl : news.length = m * size) (hnews : ∀ j u, news[j]? = some u → w.cell? (a.add j) = some u) (h1 : ∀ u ∈ news, u.oneCell' = true)
    (h63 : n + m ≤ maxLen) (hbytes : (n + m) * bytes ≤ 140737488355328) (hbase : base ≤ w.heap.size) :
    ∃ v' w', (Builtin.append_ #[t, t] ty #[v, .slice (some a) m c]).run P w = .ok v' w' ∧ CutRow w' base e size v' (n + m) (xs ++ news) ∧ w.grownBy w' v.ownBlock ∧ (v'.ownBlock = v.ownBlock ∨ ∃ g, v'.ownBlock = some g ∧ w.heap.size ≤ g) := by
  have hlen : (xs ++ news).length = (n + m) * size := by rw [List.length_append, hown.1, hl, Nat.add_mul]
  rcases hown.2 with ⟨rfl, rfl⟩ | ⟨g, off, cap, cur, rfl, hbg, hg, hnc, hcm, hcs, htake⟩
  · have hx : xs = [] := List.eq_nil_of_length_eq_zero (by simpa using hown.1)
    subst hx
    obtain ⟨v', w', q1, q2, q3, _, q5⟩ := run_append_own_at (P := P) w base t ty e i z size bytes ht hi hz hsize hby hzs hsz (.slice none 0 0) 0 [] (World.ownsRow_nil w base e size) a m c news hl hnews h1 h63 hbytes hbase
    refine ⟨v', w', q1, cut_own q2, q3, ?_⟩
    rcases q5 with q | q
    · exact .inl q
    · exact .inr ⟨_, q, Nat.le_refl _⟩
  · by_cases hroom : n + m ≤ cap
    · have hmul : (n + m) * size ≤ cap * size := Nat.mul_le_mul_right _ hroom
      rw [Nat.add_mul] at hmul
      have hfit : off + n * size + news.length ≤ cur.size := by rw [hl]; omega
      have hr := run_append_room_cells (P := P) w t ty e i ht hi g off n cap a m c news (by rw [hsize]; exact hl) hnews h1 hroom (fun j hj => by
        rw [hsize]
        have : off + n * size + j < cur.size := by omega
        rw [cell_of hg (Array.getElem?_eq_getElem this)]; rfl) (fun j _ => free_of hg)
      rw [hsize, setCells_row hg hfit h1] at hr
      refine ⟨_, _, hr, ⟨hlen, .inr ⟨g, off, cap, _, rfl, hbg, setRow_heap w g cur _ e _ hg, hroom, hcm, ?_, ?_⟩⟩, ⟨rfl, rfl, rfl, by simp [World.setRow], fun k _ hk => setRow_other w g k _ (fun e => hk (by simp [Value.ownBlock, e]))⟩, .inl rfl⟩
      · rw [List.size_toArray, length_splice _ _ _ (by simpa using hfit)]; simpa using hcs
      · have hXl : cur.toList.length = cur.size := by simp
        have e1 : (splice cur.toList (off + n * size) news).drop off = (cur.toList.drop off).take (n * size) ++ (news ++ cur.toList.drop (off + n * size + news.length)) := by
          unfold splice
          rw [List.drop_append_of_le_length (by rw [List.length_take, hXl]; omega), List.drop_take, show off + n * size - off = n * size by omega]
        rw [e1, htake, ← List.append_assoc, ← hlen]
        exact List.take_left
    · obtain ⟨v', w', q1, q2, q3⟩ := run_append_arg_grows (P := P) w t ty e i z size bytes ht hi hz hsize hby hzs hsz ⟨g, off, none⟩ n cap xs hown.1 (fun j u hj => by
        rw [Addr.add_mid]
        have hjl := (List.getElem?_eq_some_iff.1 hj).1
        rw [← htake, List.getElem?_take_of_lt (by rw [hown.1] at hjl; exact hjl), List.getElem?_drop] at hj
        exact cell_of hg (by simpa using hj)) a m c news hl hnews (by omega) h63 hbytes
      refine ⟨v', w', q1, cut_own (own_base q2 hbase), ⟨q3.os, q3.tape, q3.output, q3.size, fun k hk _ => q3.block k hk (fun e => by cases e)⟩, ?_⟩
      cases hq : v'.ownBlock with
      | none =>
        rcases q2.2 with ⟨_, h0⟩ | ⟨g', cap', cur', h0, _⟩
        · omega
        · rw [h0] at hq; cases hq
      | some k => exact .inr ⟨k, rfl, own_B q2 hq⟩
theorem wpList_append_cut {P : Program} (w : World) {ops : Array Oper} {rest : List Oper} {o : Oper} {a : Act} {Q : Exit → Act → World → Prop} (hgd : o.guard = none) (s x : Operand) (t : TypeId)
    (ho : o.op = .call { callee := .builtin .append, args := #[s, x], argTypes := #[t, t] })
    (base : Nat) (e : TypeId) (i : TypeInfo) (z : Value) (size bytes : Nat) (ht : P.underlying t = some (.slice e)) (hi : P.info? e = some i) (hz : i.zero = some z)
    (hsize : i.size = size) (hby : i.bytes = bytes) (hzs : z.cells.size = size) (hsz : 0 < size)
    (v : Value) (n : Nat) (xs : List Value) (hs : a.eval s = v) (hown : CutRow w base e size v n xs)
    (ad : Addr) (m c : Nat) (news : List Value) (hx : a.eval x = .slice (some ad) m c) (hl : news.length = m * size) (hnews : ∀ j u, news[j]? = some u → w.cell? (ad.add j) = some u) (h1 : ∀ u ∈ news, u.oneCell' = true)
    (h63 : n + m ≤ maxLen) (hbytes : (n + m) * bytes ≤ 140737488355328) (hbase : base ≤ w.heap.size)
    (h : ∀ v' w', CutRow w' base e size v' (n + m) (xs ++ news) → w.grownBy w' v.ownBlock → (v'.ownBlock = v.ownBlock ∨ ∃ g, v'.ownBlock = some g ∧ w.heap.size ≤ g) → wpList P ops Q rest (a.put o.dst v') w') :
    wpList P ops Q (o :: rest) a w := by
  refine wpList_plain hgd fun K hK => ?_
  obtain ⟨v', w', hr, h2, h3, h4⟩ := run_append_cut (P := P) w base t o.type e i z size bytes ht hi hz hsize hby hzs hsz v n xs hown ad m c news hl hnews h1 h63 hbytes hbase
  unfold Oper.wp
  simp [execOp, ho, resolve, invoke, builtin, hs, hx, hr, Result.andThen]
  exact hK _ _ (h v' w' h2 h3 h4)
/-- 'append(s, nil...)' -/
theorem wpList_append_nilx {P : Program} (w : World) {ops : Array Oper} {rest : List Oper} {o : Oper} {a : Act} {Q : Exit → Act → World → Prop} (hgd : o.guard = none) (s x : Operand) (t : TypeId)
    (ho : o.op = .call { callee := .builtin .append, args := #[s, x], argTypes := #[t, t] }) (e : TypeId) (i : TypeInfo) (ht : P.underlying t = some (.slice e)) (hi : P.info? e = some i)
    (ao : Option Addr) (n cap : Nat) (hs : a.eval s = .slice ao n cap) (hnc : n ≤ cap) (hx : a.eval x = .slice none 0 0)
    (h : wpList P ops Q rest (a.put o.dst (.slice ao n cap)) w) : wpList P ops Q (o :: rest) a w := by
  refine wpList_plain hgd fun K hK => ?_
  have hr : (Builtin.append_ #[t, t] o.type #[.slice ao n cap, .slice none 0 0]).run P w = .ok (.slice ao n cap) w := by
    cases ao <;> simp [Builtin.append_, run_underlying ht, sizeOf, typeInfo, hi, Builtin.lenOf, Builtin.firstCells, hnc, storeCells]
  unfold Oper.wp
  simp [execOp, ho, resolve, invoke, builtin, hs, hx, hr, Result.andThen]
  exact hK _ _ h
/-- The element's cells in a cut row of pairs. -/
theorem cut_pair {w : World} {base n : Nat} {v : Value} {xs : List Pr} (h : CutRow w base 108 2 v n (pairRow xs)) : n = xs.length ∧ (xs ≠ [] → ∃ g off c, v = .slice (some ⟨g, off, none⟩) n c ∧ g < w.heap.size ∧ n ≤ c ∧ ∀ i a b, xs[i]? = some (a, b) → w.cell? ⟨g, off + i * 2, none⟩ = some (.string a) ∧ w.cell? ⟨g, off + i * 2 + 1, none⟩ = some (.string b)) := by
  have hn : n = xs.length := by have := h.1; rw [pairRow_length] at this; omega
  refine ⟨hn, fun hne => ?_⟩
  rcases h.2 with ⟨rfl, h0⟩ | ⟨g, off, cap, cur, rfl, hb, hh, hcap, _, hsz, htk⟩
  · exact absurd (List.length_eq_zero_iff.1 (hn.symm.trans h0)) hne
  · refine ⟨g, off, cap, rfl, lt_of_some hh, hcap, fun i a b he => ?_⟩
    have hi := (List.getElem?_eq_some_iff.1 he).1
    have key : ∀ j u, (pairOf a b)[j]? = some u → w.cell? ⟨g, off + (i * 2 + j), none⟩ = some u := by
      intro j u hj
      have hj2 : j < 2 := by have := (List.getElem?_eq_some_iff.1 hj).1; simpa [pairOf] using this
      have h1 := pairRow_at he j u hj
      rw [← htk, List.getElem?_take_of_lt (by omega), List.getElem?_drop] at h1
      exact cell_of hh (by simpa using h1)
    exact ⟨key 0 _ rfl, key 1 _ rfl⟩
/-- 'fl[1:]' -/
theorem cut_tail {w : World} {base n : Nat} {ao : Option Addr} {c : Nat} {p : Pr} {xs : List Pr} (h : CutRow w base 108 2 (.slice ao n c) n (pairRow (p :: xs))) : ∃ ad, (if c = 1 then ao else ao.map (fun x => x.add 2)) = ad ∧ CutRow w base 108 2 (.slice ad (n - 1) (c - 1)) xs.length (pairRow xs) ∧ (∀ g, (Value.slice ad (n - 1) (c - 1)).ownBlock = some g → (Value.slice ao n c).ownBlock = some g) := by
  have hn := (cut_pair h).1
  have hl : (pairRow xs).length = xs.length * 2 := pairRow_length xs
  rcases h.2 with ⟨e, h0⟩ | ⟨g, off, cap, cur, e, hb, hh, hcap, hcm, hsz, htk⟩
  · rw [h0] at hn; simp at hn
  · injection e with e1 _ e3
    subst e1 e3
    have hnx : n - 1 = xs.length := by rw [hn]; simp
    have hn2 : n * 2 = 2 + xs.length * 2 := by rw [hn]; simp; omega
    have htl : (cur.toList.drop (off + 2)).take (xs.length * 2) = pairRow xs := by
      have : ((cur.toList.drop off).take (n * 2)).drop 2 = pairRow xs := by rw [htk]; simp [pairRow, pairOf]
      rw [← this, List.drop_take, List.drop_drop, hn2]
      congr 1
      omega
    by_cases hc : c = 1
    · have hx0 : xs = [] := List.length_eq_zero_iff.1 (by omega)
      subst hx0
      exact ⟨some ⟨g, off, none⟩, by rw [if_pos hc], ⟨hl, .inr ⟨g, off, c - 1, cur, by rw [hnx], hb, hh, by simp, by omega, by omega, by simp [pairRow]⟩⟩, fun k hk => hk⟩
    · refine ⟨some ⟨g, off + 2, none⟩, by rw [if_neg hc]; simp [Addr.add], ⟨hl, .inr ⟨g, off + 2, c - 1, cur, by rw [hnx], hb, hh, by omega, by omega, by omega, htl⟩⟩, fun k hk => hk⟩
end Go.Proofs.Ybulkcfri

import Derived.Test.YbulkcfriBuild
import Derived.Deep.Strs
import Derived.OpenShut
import Derived.ShutString
import Derived.ChangeOld
import Derived.Below
namespace Go.Proofs.Ybulkcfri
open Go.ChangeShapes Go.WideShapes Go.ChangeAt Go.RowKit
theorem cells107 : Yba.prog.cellsOf 107 = 3 := by kernel_rfl
theorem cells5 : Yba.prog.cellsOf 5 = 1 := by kernel_rfl
theorem u8_nat {z : Int} (h : (Lit.int .u8 z).wf = true) : ∃ n : Nat, z = (n : Int) ∧ n < 256 := by
  have e1 : IntKind.u8.min = 0 := rfl
  have e2 : IntKind.u8.max = 255 := rfl
  simp [Lit.wf] at h
  exact ⟨z.toNat, by omega, by omega⟩
theorem len_three {l : List Value} (h : l.length = 3) : ∃ a b c, l = [a, b, c] := by
  match l, h with
  | [a, b, c], _ => exact ⟨a, b, c, rfl⟩
set_option maxRecDepth 100000 in
/-- The script as it came in. -/
theorem ops_in {H : Type} {enc : TypeId × Value → H} {w : World} {fuel : Nat} {ad : Option Addr} {L c : Nat} {x : DataW H × List MemPlace} (h : DataW.trod enc Yba.prog w 0 (fun _ => true) true fuel 81 [.slice ad L c] = some x) : ∃ d1 d2 d3, OpsAt w ad L d1 d2 d3 := by
  rcases Go.Deep.open_slice Yba.underlying81 h with ⟨e, _⟩ | ⟨a, len, cap, m, n, D, Pl, e, _, hl, _, hm, _, hx⟩
  · simp at e
    exact ⟨fun _ => 0, fun _ => 0, fun _ => 0, .inl e.2.1⟩
  · simp at e
    obtain ⟨rfl, rfl, rfl⟩ := e
    have hmL : m = c := by rw [hm]; rfl
    have each : ∀ i, i < L → ∃ y : Nat × Nat × Nat, w.cell? (a.add (i * 3)) = some (.int .u8 y.1) ∧ w.cell? (a.add (i * 3 + 1)) = some (.int .u8 y.2.1) ∧ w.cell? (a.add (i * 3 + 2)) = some (.int .u8 y.2.2) ∧ y.1 < 256 ∧ y.2.1 < 256 ∧ y.2.2 < 256 := by
      intro i hi
      obtain ⟨cs', h1, h2⟩ := hx i (by omega)
      rw [cells107] at h1
      obtain ⟨_, hlen, hc⟩ := World.cells?_some h1
      obtain ⟨y0, y1, y2, k, _, _, t0, t1, t2⟩ := Go.Deep.trod_struct3 Yba.underlying107 h2
      obtain ⟨n0, e0, _, w0⟩ := DataW.trod_int Yba.underlying5 t0
      obtain ⟨n1, e1, _, w1⟩ := DataW.trod_int Yba.underlying5 t1
      obtain ⟨n2, e2, _, w2⟩ := DataW.trod_int Yba.underlying5 t2
      rw [cells5] at e0 e1 e2
      obtain ⟨v0, v1, v2, rfl⟩ := len_three hlen
      · simp at e0 e1 e2
        subst e0 e1 e2
        have c0 := hc 0 (by omega)
        have c1 := hc 1 (by omega)
        have c2 := hc 2 (by omega)
        rw [Go.Deep.add_add] at c0 c1 c2
        obtain ⟨m0, rfl, l0⟩ := u8_nat w0
        obtain ⟨m1, rfl, l1⟩ := u8_nat w1
        obtain ⟨m2, rfl, l2⟩ := u8_nat w2
        exact ⟨(m0, m1, m2), c0, c1, c2, l0, l1, l2⟩
    obtain ⟨Y, hY⟩ := Go.Deep.choose_lt each
    refine ⟨fun i => (Y i).1, fun i => (Y i).2.1, fun i => (Y i).2.2, ?_⟩
    by_cases h0 : L = 0
    · exact .inl h0
    · obtain ⟨b, off, spot⟩ := a
      have hq := (hY 0 (by omega)).1
      have hspot : spot = none := by simpa [Addr.add] using World.cell?_spot hq
      subst hspot
      refine .inr ⟨b, off, rfl, ?_, fun i hi => ?_⟩
      · have := World.block_lt_of_cell? w _ hq
        simpa [Addr.add] using this
      · obtain ⟨q0, q1, q2, l0, l1, l2⟩ := hY i hi
        rw [Go.WideShapes.add_plain] at q0 q1 q2
        exact ⟨q0, q1, q2, l0, l1, l2⟩
end Go.Proofs.Ybulkcfri

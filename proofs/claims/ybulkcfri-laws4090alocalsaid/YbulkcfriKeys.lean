import Derived.Test.YbulkcfriMaps
/-! The key types of this program's maps. -/
namespace Go.Proofs.Ybulkcfri
open Go.ChangeShapes Go.WideShapes Go.ChangeAt Go.RowKit
open Go.Maps (Keyed int_keyed keyOf_int_mk)

theorem keyOf_struct2 {P : Program} {k e : TypeId} {f0 f1 : Field} {v0 v1 : Value} {l0 l1 : Lit} (hu : P.underlying k = some (.struct #[f0, f1])) (hkt : P.keyType k = true) (hc : P.cellsOf k = 2) (hce : P.cellsOf e = 1)
    (t0 : f0.type = e) (t1 : f1.type = e) (o0 : f0.offset = 0) (o1 : f1.offset = 1) (n0 : (f0.name != "_") = true) (n1 : (f1.name != "_") = true)
    (h0 : ∀ d, P.keyLits (d + 1) e [v0] = some [l0]) (h1 : ∀ d, P.keyLits (d + 1) e [v1] = some [l1]) (m : Nat) (hts : P.types.size = m + 1) : ∃ l, keyOf P k (.agg #[v0, v1]) = some l := by
  refine ⟨.string (keyBytes [l0, l1]), ?_⟩
  have hk : P.keyLits (P.types.size + 1) k [v0, v1] = some [l0, l1] := by
    rw [hts]
    have e0 := h0 m
    have e1 := h1 m
    unfold Program.keyLits
    simp [hu, hc, t0, t1, o0, o1, hce, e0, e1]
    exact ⟨by simpa using n0, by simpa using n1⟩
  have hf : (Value.agg #[v0, v1]).formed P k = true := by simp [Value.formed, hu, hc]
  unfold keyOf
  simp [hu, hkt, hf, Value.cells, hk]
theorem keyOf_array2 {P : Program} {k e : TypeId} {v0 v1 : Value} {l0 l1 : Lit} (hu : P.underlying k = some (.array 2 e)) (hkt : P.keyType k = true) (hc : P.cellsOf k = 2) (hce : P.cellsOf e = 1)
    (h0 : ∀ d, P.keyLits (d + 1) e [v0] = some [l0]) (h1 : ∀ d, P.keyLits (d + 1) e [v1] = some [l1]) (m : Nat) (hts : P.types.size = m + 1) : ∃ l, keyOf P k (.agg #[v0, v1]) = some l := by
  refine ⟨.string (keyBytes [l0, l1]), ?_⟩
  have hk : P.keyLits (P.types.size + 1) k [v0, v1] = some [l0, l1] := by
    rw [hts]
    have e0 := h0 m
    have e1 := h1 m
    unfold Program.keyLits
    simp [hu, hc, hce, e0, e1, List.range, List.range.loop]
  have hf : (Value.agg #[v0, v1]).formed P k = true := by simp [Value.formed, hu, hc]
  unfold keyOf
  simp [hu, hkt, hf, Value.cells, hk]
theorem lits_int {P : Program} {e : TypeId} {q : IntKind} (he : P.underlying e = some (.int q)) {a : Int} (ha : (Lit.int q a).wf = true) (d : Nat) : P.keyLits (d + 1) e [.int q a] = some [.int q a] := by
  unfold Program.keyLits
  simp [he, ha]
theorem lits_string {P : Program} {e : TypeId} (he : P.underlying e = some .string) {a : ByteArray} (ha : a.size ≤ maxLen) (d : Nat) : P.keyLits (d + 1) e [.string a] = some [.string a.data.toList] := by
  unfold Program.keyLits
  simp [he, ha]

set_option maxRecDepth 100000
theorem laidOut : laidOutB Yba.prog = true := by kernel_rfl
theorem types_size : Yba.prog.types.size = 228 := by kernel_rfl
theorem row39 : 39 < Yba.prog.types.size := by rw [types_size]; omega
theorem row75 : 75 < Yba.prog.types.size := by rw [types_size]; omega
theorem row102 : 102 < Yba.prog.types.size := by rw [types_size]; omega
theorem wide39 : (match Yba.prog.underlying 39 with | some (.array _ _) | some (.struct _) => true | _ => false) = true := by kernel_rfl
theorem wide75 : (match Yba.prog.underlying 75 with | some (.array _ _) | some (.struct _) => true | _ => false) = true := by kernel_rfl
theorem wide102 : (match Yba.prog.underlying 102 with | some (.array _ _) | some (.struct _) => true | _ => false) = true := by kernel_rfl
theorem law39 : Keyed Yba.prog 39 := Keyed.of_law (deep_law_laid laidOut (m := 2) (by omega) row39 (by kernel_rfl) wide39)
theorem law75 : Keyed Yba.prog 75 := Keyed.of_law (deep_law_laid laidOut (m := 2) (by omega) row75 (by kernel_rfl) wide75)
theorem law102 : Keyed Yba.prog 102 := Keyed.of_law (deep_law_laid laidOut (m := 2) (by omega) row102 (by kernel_rfl) wide102)
theorem law22 : Keyed Yba.prog 22 := int_keyed Yba.underlying22
theorem cells39 : Yba.prog.cellsOf 39 = 2 := by kernel_rfl
theorem cells75 : Yba.prog.cellsOf 75 = 2 := by kernel_rfl
theorem cells102 : Yba.prog.cellsOf 102 = 2 := by kernel_rfl
theorem cells22 : Yba.prog.cellsOf 22 = 1 := by kernel_rfl
theorem cells9 : Yba.prog.cellsOf 9 = 1 := by kernel_rfl
theorem kt39 : Yba.prog.keyType 39 = true := by kernel_rfl
theorem kt75 : Yba.prog.keyType 75 = true := by kernel_rfl
theorem kt102 : Yba.prog.keyType 102 = true := by kernel_rfl

theorem key39 {a b : Int} (ha : (Lit.int .u64 a).wf = true) (hb : (Lit.int .u64 b).wf = true) : ∃ l, keyOf Yba.prog 39 (.agg #[.int .u64 a, .int .u64 b]) = some l :=
  keyOf_struct2 Yba.underlying39 kt39 cells39 cells22 rfl rfl rfl rfl rfl rfl (lits_int Yba.underlying22 ha) (lits_int Yba.underlying22 hb) 227 types_size
theorem key75 {a b : Int} (ha : (Lit.int .u64 a).wf = true) (hb : (Lit.int .u64 b).wf = true) : ∃ l, keyOf Yba.prog 75 (.agg #[.int .u64 a, .int .u64 b]) = some l :=
  keyOf_array2 Yba.underlying75 kt75 cells75 cells22 (lits_int Yba.underlying22 ha) (lits_int Yba.underlying22 hb) 227 types_size
theorem key102 {a b : ByteArray} (ha : a.size ≤ maxLen) (hb : b.size ≤ maxLen) : ∃ l, keyOf Yba.prog 102 (.agg #[.string a, .string b]) = some l :=
  keyOf_struct2 Yba.underlying102 kt102 cells102 cells9 rfl rfl rfl rfl rfl rfl (lits_string Yba.underlying9 ha) (lits_string Yba.underlying9 hb) 227 types_size
theorem key22 {a : Int} (ha : (Lit.int .u64 a).wf = true) : ∃ l, keyOf Yba.prog 22 (.int .u64 a) = some l := ⟨_, keyOf_int_mk Yba.underlying22 ha⟩
end Go.Proofs.Ybulkcfri

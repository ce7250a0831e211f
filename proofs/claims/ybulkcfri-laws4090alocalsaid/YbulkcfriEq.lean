import Derived.Test.YbulkcfriRows
import Derived.WalkKit
import Derived.ProofKit
import Derived.WalkSpells
import Derived.Laws.StructEq
/-! '==' and '!=' on this program's small structs. -/
namespace Go.Proofs.Ybulkcfri
set_option maxRecDepth 100000

theorem eqg29 : Yba.prog.eqGuardType Yba.prog.depth 29 = false := by kernel_rfl
theorem eqg39 : Yba.prog.eqGuardType Yba.prog.depth 39 = false := by kernel_rfl
theorem eqg45 : Yba.prog.eqGuardType Yba.prog.depth 45 = false := by kernel_rfl
theorem eqg102 : Yba.prog.eqGuardType Yba.prog.depth 102 = false := by kernel_rfl
theorem eqg108 : Yba.prog.eqGuardType Yba.prog.depth 108 = false := by kernel_rfl

/-- '==' on a struct of two fields of one cell each. -/
theorem equalIn_two {P : Program} {t : TypeId} {f0 f1 : Field} {x0 x1 y0 y1 : Value} {r0 r1 : Bool} (ht : P.underlying t = some (.struct #[f0, f1])) (hp : P.stoodInHeld t = false)
    (n0 : (f0.name != "_") = true) (n1 : (f1.name != "_") = true) (w : World)
    (p0 : ∀ w, (part f0.type #[x0, x1] f0.offset).run P w = .ok x0 w) (p1 : ∀ w, (part f1.type #[x0, x1] f1.offset).run P w = .ok x1 w)
    (s0 : ∀ w, (part f0.type #[y0, y1] f0.offset).run P w = .ok y0 w) (s1 : ∀ w, (part f1.type #[y0, y1] f1.offset).run P w = .ok y1 w)
    (q0 : ∀ w, (Op.equalIn 9999 f0.type x0 y0).run P w = .ok r0 w) (q1 : ∀ w, (Op.equalIn 9999 f1.type x1 y1).run P w = .ok r1 w) :
    (Op.equalIn 10000 t (.agg #[x0, x1]) (.agg #[y0, y1])).run P w = .ok (r0 && r1) w := by
  have n0' : ¬ f0.name = "_" := by simpa using n0
  have n1' : ¬ f1.name = "_" := by simpa using n1
  unfold Op.equalIn
  simp only [Sem.run_bind, run_underlying ht, Result.andThen_ok, run_program, hp, Bool.false_eq_true, if_false]
  cases r0 <;> cases r1 <;> simp [n0', n1', p0, p1, s0, s1, q0, q1]
theorem pk22 : Yba.prog.plainKey 22 = true := by kernel_rfl
theorem pk9 : Yba.prog.plainKey 9 = true := by kernel_rfl
theorem sih29 : Yba.prog.stoodInHeld 29 = false := by kernel_rfl
theorem sih39 : Yba.prog.stoodInHeld 39 = false := by kernel_rfl
theorem sih45 : Yba.prog.stoodInHeld 45 = false := by kernel_rfl
theorem sih102 : Yba.prog.stoodInHeld 102 = false := by kernel_rfl
theorem sih108 : Yba.prog.stoodInHeld 108 = false := by kernel_rfl

theorem eqIn29 (a b c d : Int) (w : World) : (Op.equalIn 10000 29 (.agg #[.int .u64 a, .int .u64 b]) (.agg #[.int .u64 c, .int .u64 d])).run Yba.prog w = .ok (a == c && b == d) w :=
  equalIn_two Yba.underlying29 sih29 rfl rfl w (fun w => run_part_plain w pk22 rfl) (fun w => run_part_plain w pk22 rfl) (fun w => run_part_plain w pk22 rfl) (fun w => run_part_plain w pk22 rfl)
    (fun w => run_equalIn_int w 9998 22 .u64 .u64 a c Yba.underlying22) (fun w => run_equalIn_int w 9998 22 .u64 .u64 b d Yba.underlying22)
theorem eqIn39 (a b c d : Int) (w : World) : (Op.equalIn 10000 39 (.agg #[.int .u64 a, .int .u64 b]) (.agg #[.int .u64 c, .int .u64 d])).run Yba.prog w = .ok (a == c && b == d) w :=
  equalIn_two Yba.underlying39 sih39 rfl rfl w (fun w => run_part_plain w pk22 rfl) (fun w => run_part_plain w pk22 rfl) (fun w => run_part_plain w pk22 rfl) (fun w => run_part_plain w pk22 rfl)
    (fun w => run_equalIn_int w 9998 22 .u64 .u64 a c Yba.underlying22) (fun w => run_equalIn_int w 9998 22 .u64 .u64 b d Yba.underlying22)
theorem eqIn45 (a c : Int) (b d : ByteArray) (w : World) : (Op.equalIn 10000 45 (.agg #[.int .u64 a, .string b]) (.agg #[.int .u64 c, .string d])).run Yba.prog w = .ok (a == c && b.toList == d.toList) w :=
  equalIn_two Yba.underlying45 sih45 rfl rfl w (fun w => run_part_plain w pk22 rfl) (fun w => run_part_plain w pk9 rfl) (fun w => run_part_plain w pk22 rfl) (fun w => run_part_plain w pk9 rfl)
    (fun w => run_equalIn_int w 9998 22 .u64 .u64 a c Yba.underlying22) (fun w => run_equalIn_string w 9998 9 b d Yba.underlying9)
theorem eqIn102 (a b c d : ByteArray) (w : World) : (Op.equalIn 10000 102 (.agg #[.string a, .string b]) (.agg #[.string c, .string d])).run Yba.prog w = .ok (a.toList == c.toList && b.toList == d.toList) w :=
  equalIn_two Yba.underlying102 sih102 rfl rfl w (fun w => run_part_plain w pk9 rfl) (fun w => run_part_plain w pk9 rfl) (fun w => run_part_plain w pk9 rfl) (fun w => run_part_plain w pk9 rfl)
    (fun w => run_equalIn_string w 9998 9 a c Yba.underlying9) (fun w => run_equalIn_string w 9998 9 b d Yba.underlying9)
theorem eqIn108 (a b c d : ByteArray) (w : World) : (Op.equalIn 10000 108 (.agg #[.string a, .string b]) (.agg #[.string c, .string d])).run Yba.prog w = .ok (a.toList == c.toList && b.toList == d.toList) w :=
  equalIn_two Yba.underlying108 sih108 rfl rfl w (fun w => run_part_plain w pk9 rfl) (fun w => run_part_plain w pk9 rfl) (fun w => run_part_plain w pk9 rfl) (fun w => run_part_plain w pk9 rfl)
    (fun w => run_equalIn_string w 9998 9 a c Yba.underlying9) (fun w => run_equalIn_string w 9998 9 b d Yba.underlying9)

theorem neq29 (a b c d : Int) (w : World) : (binOp .neq 29 (.agg #[.int .u64 a, .int .u64 b]) (.agg #[.int .u64 c, .int .u64 d])).run Yba.prog w = .ok (.bool !(a == c && b == d)) w := by
  rw [run_neq_struct, eqIn29]; rfl
theorem neq39 (a b c d : Int) (w : World) : (binOp .neq 39 (.agg #[.int .u64 a, .int .u64 b]) (.agg #[.int .u64 c, .int .u64 d])).run Yba.prog w = .ok (.bool !(a == c && b == d)) w := by
  rw [run_neq_struct, eqIn39]; rfl
theorem eql39 (a b c d : Int) (w : World) : (binOp .eql 39 (.agg #[.int .u64 a, .int .u64 b]) (.agg #[.int .u64 c, .int .u64 d])).run Yba.prog w = .ok (.bool (a == c && b == d)) w := by
  rw [run_eql_struct, eqIn39]; rfl
theorem neq45 (a c : Int) (b d : ByteArray) (w : World) : (binOp .neq 45 (.agg #[.int .u64 a, .string b]) (.agg #[.int .u64 c, .string d])).run Yba.prog w = .ok (.bool !(a == c && b.toList == d.toList)) w := by
  rw [run_neq_struct, eqIn45]; rfl
theorem eql102 (a b c d : ByteArray) (w : World) : (binOp .eql 102 (.agg #[.string a, .string b]) (.agg #[.string c, .string d])).run Yba.prog w = .ok (.bool (a.toList == c.toList && b.toList == d.toList)) w := by
  rw [run_eql_struct, eqIn102]; rfl
theorem eql108 (a b c d : ByteArray) (w : World) : (binOp .eql 108 (.agg #[.string a, .string b]) (.agg #[.string c, .string d])).run Yba.prog w = .ok (.bool (a.toList == c.toList && b.toList == d.toList)) w := by
  rw [run_eql_struct, eqIn108]; rfl
theorem neq108 (a b c d : ByteArray) (w : World) : (binOp .neq 108 (.agg #[.string a, .string b]) (.agg #[.string c, .string d])).run Yba.prog w = .ok (.bool !(a.toList == c.toList && b.toList == d.toList)) w := by
  rw [run_neq_struct, eqIn108]; rfl
end Go.Proofs.Ybulkcfri

import Derived.Test.Qxb6613536aSFit
import Derived.Laws.StructEq
namespace Go.Proofs.Qxb6613536a
open Go.RowKit
set_option linter.unusedVariables false
set_option linter.unusedSimpArgs false

theorem stood35 : Try.prog.stoodInHeld 35 = false := by kernel_rfl
theorem guard35 : Try.prog.eqGuardType Try.prog.depth 35 = false := by kernel_rfl
theorem fields35 : Try.prog.underlying 35 = some (.struct (Try.prog.fieldsOf 35)) := by
  rw [Try.underlying35]; simp [Program.fieldsOf, Try.underlying35]

theorem eql35 (w : World) (x1 x2 x3 x4 y1 y2 y3 y4 : Int) :
    (Op.equalIn 10000 35 (.agg #[.int .i64 x1, .int .i64 x2, .int .i64 x3, .int .i64 x4]) (.agg #[.int .i64 y1, .int .i64 y2, .int .i64 y3, .int .i64 y4])).run Try.prog w = .ok (decide ((x1, x2, x3, x4) = (y1, y2, y3, y4))) w := by
  rw [run_equalIn_agg w 9999 35 _ _ fields35 stood35]
  simp [Program.fieldsOf, Try.underlying35, Op.eqFields, go_sem, Try.underlying2, Try.underlying3]
  by_cases h1 : x1 = y1 <;> by_cases h2 : x2 = y2 <;> by_cases h3 : x3 = y3 <;> by_cases h4 : x4 = y4 <;> simp [h1, h2, h3, h4]
end Go.Proofs.Qxb6613536a

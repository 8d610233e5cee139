import Derived.Test.Qxb6600752aVb
namespace Go.Proofs.Qxb6600752a
open Go.RowKit Go.Maps
theorem field115 (a b : Int) (w : World) : (Instr.field 115 (.agg #[.int .i64 a, .int .i64 b]) 0).run Try.prog w = .ok (.int .i64 a) w := by kernel_rfl
theorem field58 (a b : Int) (w : World) : (Instr.field 58 (.agg #[.int .i64 a, .int .i64 b]) 0).run Try.prog w = .ok (.int .i64 a) w := by kernel_rfl
end Go.Proofs.Qxb6600752a

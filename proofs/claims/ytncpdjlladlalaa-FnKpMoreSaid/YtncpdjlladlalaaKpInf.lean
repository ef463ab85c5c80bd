/- The walk of math.Inf. Conditions: none. -/
import Derived.Test.YtncpdjlladlalaaRows
import Derived.Test.YtncpdjlladlalaaKpMem
namespace Go.Proofs.Ytncpdjlladlalaa
open Go.RowKit Lox
set_option linter.unusedVariables false

theorem run_frombits (w : World) : (callFunc 69 #[.int .u64 9218868437227405312]).run Try.prog w = .ok (.value (.float .f64 INF)) w := by
  rw [run_callFunc_extern Try.func69 (by kernel_rfl) (by kernel_rfl) (by kernel_rfl) (e := Extern.MathFloatBits.float64frombits) (by kernel_rfl)]
  kernel_rfl

set_option maxHeartbeats 400000 in
theorem inf_at (w : World) : Calls Try.prog 60 #[.int .i64 1] w fun e w' => e = .returned (.float .f64 INF) ∧ w = w' := by
  have hf := run_frombits
  go_enter Try.func60, Try.ntmps60
  go_wp2
  go_ret
  exact ⟨rfl, rfl⟩
end Go.Proofs.Ytncpdjlladlalaa

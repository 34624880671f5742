/- math.Float64bits, which has no Go body here. -/
import Derived.Test.YtlghpcokbppkfaaData
namespace Go.Proofs.Ytlghpcokbppkfaa
open Go.RowKit

theorem run_float64bits (b : Nat) (w : World) : (callFunc 112 #[.float .f64 b]).run Try.prog w = .ok (.value (.int .u64 b)) w := by
  rw [run_callFunc_extern (fn := Try.f112) (e := Extern.MathFloatBits.float64bits) Try.func112 (by kernel_rfl) (by kernel_rfl) (by kernel_rfl) (by kernel_rfl)]
  rfl
end Go.Proofs.Ytlghpcokbppkfaa

/- parseFloat64 f65 and what it calls. -/
import Derived.Test.YtlpkdagdfopchaaGreatDoorG12
import Derived.Laws.Externs
namespace Go.Proofs.YtlpkdagdfopchaaGreatDoor
open Go.RowKit
set_option linter.unusedVariables false
set_option linter.unusedSimpArgs false

theorem frombits_run (n : Int) (w : World) : (callFunc 63 #[.int .u64 n]).run Tryz.prog w = .ok (.value (.float .f64 n.toNat)) w := by
  rw [run_callFunc_extern Tryz.func63 (e := Extern.MathFloatBits.float64frombits) (by kernel_rfl) (by kernel_rfl) (by kernel_rfl) (by kernel_rfl) #[.int .u64 n] w]
  rfl

set_option maxRecDepth 100000 in
theorem pack64_calls (m e : Int) (w : World) (he : -5000 ≤ e ∧ e < 972) : Calls Tryz.prog 82 #[.int .u64 m, .int .i64 e] w fun r w' => (∃ x, r = .returned (.tuple #[.float .f64 x, .nilIface])) ∧ w' = w := by
  have hd := frombits_run
  go_enter Tryz.func82, Tryz.ntmps82
  cases hb : (bits .and .u64 m 4503599627370496 == 0) with
  | true =>
    go_wp2_with fail
    go_ret2
    exact ⟨⟨_, rfl⟩, rfl⟩
  | false =>
    go_wp2_with fail
    go_ret2
    exact ⟨⟨_, rfl⟩, rfl⟩

end Go.Proofs.YtlpkdagdfopchaaGreatDoor

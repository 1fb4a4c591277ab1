/- internal/strconv.unmin and float64frombits: what they answer. No condition. -/
import Derived.Test.YtnggkkdcddpjlaaGreatDoorZ10
namespace Go.Proofs.YtnggkkdcddpjlaaGreatDoor
open Go.RowKit
set_option maxRecDepth 100000
set_option linter.unusedVariables false
theorem frombits64 (n : Nat) (w : World) : (callFunc 249 #[.int .u64 (n : Int)]).run Tryz.prog w = .ok (.value (.float .f64 n)) w := by kernel_rfl
/-- An error, or none. -/
def erV (b : Bool) : Value := if b then .iface 257 (.int .i64 1) else .nilIface
theorem nat_of (x : Int) (h : 0 ≤ x) : ∃ n : Nat, x = n := ⟨x.toNat, by omega⟩
theorem unmin_run (x : Int) (w : World) : Calls Tryz.prog 229 #[.int .u64 x] w fun e w' => e = .returned (.int .u64 (IntKind.u64.wrap (IntKind.u64.wrap (x * 4) - 2))) ∧ w' = w := by
  go_enter Tryz.func229, Tryz.ntmps229
  go_wp2
  go_ret
  exact ⟨rfl, rfl⟩
theorem u64_in2 (z : Int) : 0 ≤ IntKind.u64.wrap z ∧ IntKind.u64.wrap z < 18446744073709551616 := by rw [IntKind.wrap_u64]; omega
end Go.Proofs.YtnggkkdcddpjlaaGreatDoor

/- orDefault (15). -/
import Derived.Test.YbulkaebuRows
import Derived.WalkKit
import Derived.ProofKit
import Derived.OpenShut
import Derived.WalkSpells
namespace Go.Proofs.Ybulkaebu
open Go.ChangeShapes Go.WideShapes Go.ChangeAt Go.RowKit
set_option linter.unusedVariables false
theorem or_pos (n d : Int) (h : 0 < n) (w : World) : Calls Yba.prog 15 #[.int .i64 n, .int .i64 d] w fun e w' => e = .returned (.int .i64 n) ∧ w' = w := by
  go_enter Yba.func15, Yba.ntmps15
  go_wp2
  go_ret
  exact ⟨rfl, rfl⟩
theorem or_def (n d : Int) (h : n ≤ 0) (w : World) : Calls Yba.prog 15 #[.int .i64 n, .int .i64 d] w fun e w' => e = .returned (.int .i64 d) ∧ w' = w := by
  go_enter Yba.func15, Yba.ntmps15
  go_wp2
  go_ret
  exact ⟨rfl, rfl⟩
end Go.Proofs.Ybulkaebu

/- The two mixers of seat b1494a: 'mix' (16) and 'zzs1494amix' (8) compute one plain function, 'mixF'. -/
import Derived.Test.YbulkadxmRows
import Derived.WalkKit
import Derived.ProofKit
import Derived.OpenShut
import Derived.WalkSpells
namespace Go.Proofs.Ybulkadxm
open Go.ChangeShapes Go.WideShapes Go.ChangeAt Go.RowKit
set_option linter.unusedVariables false

/-- SplitMix64's output function, in the walk's own words. -/
def mixA (z : Int) : Int := IntKind.u64.wrap (bits BinOp.xor IntKind.u64 z (z / 1073741824) * 13787848793156543929)
def mixB (z : Int) : Int := IntKind.u64.wrap (bits BinOp.xor IntKind.u64 z (z / 134217728) * 10723151780598845931)
def mixC (z : Int) : Int := bits BinOp.xor IntKind.u64 z (z / 2147483648)
def mixF (z : Int) : Int := mixC (mixB (mixA z))

theorem mixF_bd (z : Int) : 0 ≤ mixF z ∧ mixF z ≤ 18446744073709551615 := by
  have h : (Lit.int .u64 (mixF z)).wf = true := by
    unfold mixF mixC
    exact wf_bits _ _ _ _
  exact bounds_u64 h

theorem ret_int {k : IntKind} {a b : Int} (h : a = b) : Ending.returned (.int k a) = .returned (.int k b) := by rw [h]

theorem mix_any (z : Int) (h0 : 0 ≤ z) (h1 : z ≤ 18446744073709551615) (w : World) :
    Calls Yba.prog 16 #[.int .u64 z] w fun e w' => e = .returned (.int .u64 (mixF z)) ∧ w' = w := by
  go_enter Yba.func16, Yba.ntmps16
  go_wp2
  go_ret
  exact ⟨rfl, rfl⟩

theorem zmix_any (z : Int) (h0 : 0 ≤ z) (h1 : z ≤ 18446744073709551615) (w : World) :
    Calls Yba.prog 8 #[.int .u64 z] w fun e w' => e = .returned (.int .u64 (mixF z)) ∧ w' = w := by
  go_enter Yba.func8, Yba.ntmps8
  go_wp2
  go_ret
  exact ⟨rfl, rfl⟩
end Go.Proofs.Ybulkadxm

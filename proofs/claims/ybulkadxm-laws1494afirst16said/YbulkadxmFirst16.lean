/- 'firstBucket' at uint16 entries (10). -/
import Derived.Test.YbulkadxmMix
import Derived.Deep.QuietTactic
import Derived.BigQuiet
namespace Go.Proofs.Ybulkadxm
open Go.ChangeShapes Go.WideShapes Go.ChangeAt Go.RowKit
set_option linter.unusedVariables false

theorem first16_any (b : Nat) (key : Int) (h0 : 0 ≤ key) (h1 : key ≤ 18446744073709551615) (n : Nat) (hn1 : 1 ≤ n) (hn2 : n ≤ 4096) (w : World) (ao : Option Addr) (c : Nat)
    (hc : w.cell? ⟨b, 0, none⟩ = some (.slice ao n c)) :
    Calls Yba.prog 10 #[.pointer (some ⟨b, 0, none⟩), .int .u64 key] w fun e w' => e = .returned (.tuple #[.int .u64 (mixF key), .int .u16 (mixF key % (n : Int))]) ∧ ∃ q, w' = w.drewN q := by
  obtain ⟨m0, m1⟩ := mixF_bd key
  have r0 : 0 ≤ mixF key % (n : Int) := Int.emod_nonneg _ (by omega)
  have r1 : mixF key % (n : Int) < (n : Int) := Int.emod_lt_of_pos _ (by omega)
  go_enter Yba.func10, Yba.ntmps10
  go_wp2_with (go_at_call 16; refine (mix_any _ (by omega) (by omega) _).mono ?_; rintro e w' ⟨rfl, rfl⟩)
  go_quiet (fail)
  go_wp2
  go_ret2
  exact ⟨rfl, _, rfl⟩
end Go.Proofs.Ybulkadxm

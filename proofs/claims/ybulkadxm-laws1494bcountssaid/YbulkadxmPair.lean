/- zzs1494bnarrow (11), zzs1494bwide (12): a table of two rows. -/
import Derived.Test.YbulkadxmMix
import Derived.Deep.OwnRows
import Derived.RegionTactic
import Derived.BigRegion
namespace Go.Proofs.Ybulkadxm
open Go.ChangeShapes Go.WideShapes Go.ChangeAt Go.RowKit
set_option linter.unusedVariables false
theorem pinfo23 : (Yba.prog.info? 23).map (fun i => (i.zero, i.size, i.bytes)) = some (some (.int .u16 0), 1, 2) := by kernel_rfl
theorem pinfo27 : (Yba.prog.info? 27).map (fun i => (i.zero, i.size, i.bytes)) = some (some (.int .u32 0), 1, 4) := by kernel_rfl

theorem narrow_any (n r : Nat) (hn : n ≤ 4096) (hr : r ≤ 4096) (w : World) :
    Calls Yba.prog 11 #[.int .i64 n, .int .i64 r] w fun e w' => ∃ g h : Nat, e = .returned (.agg #[.slice (some ⟨g, 0, none⟩) n n, .slice none 0 0, .slice none 0 0, .slice none 0 0, .slice (some ⟨h, 0, none⟩) r r]) ∧ Below w.heap.size w w' := by
  have hmn := run_make_row' (P := Yba.prog) 32 23 _ 2 Yba.underlying32 pinfo23 rfl .i64 .i64 n (by omega) (by omega)
  have hmr := run_make_row' (P := Yba.prog) 32 23 _ 2 Yba.underlying32 pinfo23 rfl .i64 .i64 r (by omega) (by omega)
  go_enter Yba.func11, Yba.ntmps11
  go_wp2
  go_region
  all_goals go_wp2
  · exact bodyPost_ret (v := .agg #[.slice (some ⟨w.heap.size + 1, 0, none⟩) n n, .slice none 0 0, .slice none 0 0, .slice none 0 0, .slice (some ⟨w.heap.size + 1 + 1, 0, none⟩) r r]) (by simp [results, Yba.results11, go_sem]) rfl ⟨_, _, rfl, ((((Below.refl _ _).alloc (Nat.le_refl _) _).alloc (by simp) _).alloc (by simp; omega) _).drew⟩
  · exact bodyPost_ret (v := .agg #[.slice (some ⟨w.heap.size + 1 + 1, 0, none⟩) n n, .slice none 0 0, .slice none 0 0, .slice none 0 0, .slice (some ⟨w.heap.size + 1, 0, none⟩) r r]) (by simp [results, Yba.results11, go_sem]) rfl ⟨_, _, rfl, ((((Below.refl _ _).alloc (Nat.le_refl _) _).alloc (by simp) _).alloc (by simp; omega) _).drew⟩
theorem wide_any (n r : Nat) (hn : n ≤ 4096) (hr : r ≤ 4096) (w : World) :
    Calls Yba.prog 12 #[.int .i64 n, .int .i64 r] w fun e w' => ∃ g h : Nat, e = .returned (.agg #[.slice (some ⟨g, 0, none⟩) n n, .slice none 0 0, .slice none 0 0, .slice none 0 0, .slice (some ⟨h, 0, none⟩) r r]) ∧ Below w.heap.size w w' := by
  have hmn := run_make_row' (P := Yba.prog) 24 27 _ 4 Yba.underlying24 pinfo27 rfl .i64 .i64 n (by omega) (by omega)
  have hmr := run_make_row' (P := Yba.prog) 24 27 _ 4 Yba.underlying24 pinfo27 rfl .i64 .i64 r (by omega) (by omega)
  go_enter Yba.func12, Yba.ntmps12
  go_wp2
  go_region
  all_goals go_wp2
  · exact bodyPost_ret (v := .agg #[.slice (some ⟨w.heap.size + 1, 0, none⟩) n n, .slice none 0 0, .slice none 0 0, .slice none 0 0, .slice (some ⟨w.heap.size + 1 + 1, 0, none⟩) r r]) (by simp [results, Yba.results12, go_sem]) rfl ⟨_, _, rfl, ((((Below.refl _ _).alloc (Nat.le_refl _) _).alloc (by simp) _).alloc (by simp; omega) _).drew⟩
  · exact bodyPost_ret (v := .agg #[.slice (some ⟨w.heap.size + 1 + 1, 0, none⟩) n n, .slice none 0 0, .slice none 0 0, .slice none 0 0, .slice (some ⟨w.heap.size + 1, 0, none⟩) r r]) (by simp [results, Yba.results12, go_sem]) rfl ⟨_, _, rfl, ((((Below.refl _ _).alloc (Nat.le_refl _) _).alloc (by simp) _).alloc (by simp; omega) _).drew⟩
end Go.Proofs.Ybulkadxm

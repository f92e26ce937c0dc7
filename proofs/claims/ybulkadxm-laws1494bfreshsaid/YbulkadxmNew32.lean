/- newTable[uint32] (14): what it returns, in whatever order its literal is laid. -/
import Derived.Test.YbulkadxmMix
import Derived.Test.YbulkadxmNT
namespace Go.Proofs.Ybulkadxm
open Go.ChangeShapes Go.WideShapes Go.ChangeAt Go.RowKit
set_option linter.unusedVariables false

theorem alloc26 (w : World) : (Instr.alloc 26 true (.tuple #[])).run Yba.prog w = .ok (.pointer (some ⟨w.heap.size, 0, none⟩)) (w.alloc (.cells #[.slice none 0 0, .slice none 0 0, .slice none 0 0, .slice none 0 0, .slice none 0 0] 26)) := by kernel_rfl
theorem size26 : (Yba.prog.info? 26).map (·.size) = some 5 := by kernel_rfl
theorem info27 : (Yba.prog.info? 27).map (fun i => (i.zero, i.size, i.bytes)) = some (some (.int .u32 0), 1, 4) := by kernel_rfl
theorem build26 (n : Nat) (g0 g1 g2 g3 g4 : Nat) (w : World) : (Instr.build 26 #[(0, .slice (some ⟨g0, 0, none⟩) n n), (1, .slice (some ⟨g1, 0, none⟩) n n), (2, .slice (some ⟨g2, 0, none⟩) n n), (3, .slice (some ⟨g3, 0, none⟩) n n), (4, .slice (some ⟨g4, 0, none⟩) 0 (n - 1))]).run Yba.prog w = .ok (.agg #[.slice (some ⟨g0, 0, none⟩) n n, .slice (some ⟨g1, 0, none⟩) n n, .slice (some ⟨g2, 0, none⟩) n n, .slice (some ⟨g3, 0, none⟩) n n, .slice (some ⟨g4, 0, none⟩) 0 (n - 1)]) w := by kernel_rfl
theorem sub3w (n : Nat) (hn : n ≤ 4096) (w : World) : (do eqGuard BinOp.sub 3 (Operand.tmp 16) (Operand.const (Value.int IntKind.i64 1)) (.int .i64 (n : Int)) (.int .i64 1); binOp BinOp.sub 3 (.int .i64 (n : Int)) (.int .i64 1) : Sem Value).run Yba.prog w = .ok (.int .i64 ((n : Int) - 1)) w := by
  have h : IntKind.i64.wrap ((n : Int) - 1) = (n : Int) - 1 := by rw [IntKind.wrap_i64]; omega
  have h1 : (do eqGuard BinOp.sub 3 (Operand.tmp 16) (Operand.const (Value.int IntKind.i64 1)) (.int .i64 (n : Int)) (.int .i64 1); binOp BinOp.sub 3 (.int .i64 (n : Int)) (.int .i64 1) : Sem Value).run Yba.prog w = .ok (.int .i64 (IntKind.i64.wrap ((n : Int) - 1))) w := by kernel_rfl
  rw [h1, h]
theorem make24 (n : Nat) (hn : n ≤ 4096) (w : World) : (Instr.makeSlice 24 (.int .i64 (n : Int)) (.int .i64 (n : Int))).run Yba.prog w = .ok (.slice (some ⟨w.heap.size, 0, none⟩) n n) (w.alloc (.cells (madeCells #[.int .u32 0] n) 27)) :=
  run_make_row' 24 27 _ 4 Yba.underlying24 info27 rfl .i64 .i64 n (by omega) (by omega) w
theorem make24c (n : Nat) (hn0 : 1 ≤ n) (hn : n ≤ 4096) (w : World) : (Instr.makeSlice 24 (.int .i64 0) (.int .i64 ((n : Int) - 1))).run Yba.prog w = .ok (.slice (some ⟨w.heap.size, 0, none⟩) 0 (n - 1)) (w.alloc (.cells (madeCells #[.int .u32 0] (n - 1)) 27)) := by
  obtain ⟨i, hi, hz, hs, hb⟩ := info_parts info27
  have hr := run_make (P := Yba.prog) w 24 27 i _ Yba.underlying24 hi hz .i64 .i64 0 ((n : Int) - 1) (by omega) (by omega) (by rw [hb]; omega) (by omega)
  simp only [hs, Nat.mul_one, Int.toNat_zero, show ((n : Int) - 1).toNat = n - 1 by omega, show (Value.int IntKind.u32 0).cells = #[Value.int IntKind.u32 0] from rfl] at hr
  exact hr

set_option maxHeartbeats 1000000 in
theorem nt32 (n k : Nat) (hk1 : 1 ≤ k) (hkn : k ≤ n) (hn2 : n ≤ 512) (w : World) :
    Calls Yba.prog 14 #[.int .i64 n, .int .i64 k] w fun e w' => ∃ g0 g1 g2 g3 g4 : Nat, e = .returned (.agg #[.slice (some ⟨g0, 0, none⟩) n n, .slice (some ⟨g1, 0, none⟩) n n, .slice (some ⟨g2, 0, none⟩) n n, .slice (some ⟨g3, 0, none⟩) n n, .slice (some ⟨g4, 0, none⟩) (n - k) (n - 1)]) ∧ Below w.heap.size w w' := by
  go_enter Yba.func14, Yba.ntmps14
  go_wp2
  refine wp_region_any rfl ?_
  refine region_tab _ 24 26 27 (by decide) w.heap.size n _ _ _ (.int .u32 0) _ (by simp) rfl (make24 n (by omega)) (make24c n (by omega) (by omega)) alloc26 (build26 n) (sub3w n (by omega)) size26 _ ?_
  intro T g0 g1 g2 g3 g4 w2 hbel hT hg0 hg1 hg2 hg3 hg4 r0 r1 r2 r3 r4 hTab
  have hN : NT w.heap.size n 27 26 w T g0 g1 g2 g3 g4 0 w2 := NT.start hbel hT hg0 hg1 hg2 hg3 hg4 r0 r1 r2 r3 r4 hTab
  clear hbel hT hg0 hg1 hg2 hg3 hg4 r0 r1 r2 r3 r4 hTab
  go_wp2
  go_loopw [21] (fun i wr => ∃ j : Nat, j ≤ n ∧ i = .int .i64 j ∧ NT w.heap.size n 27 26 w T g0 g1 g2 g3 g4 0 wr) (fun i _ => n - (intOf i).toNat)
  case atStart => exact ⟨0, Nat.zero_le _, rfl, hN⟩
  case round =>
    clear hN
    obtain ⟨j, hj, rfl, hN⟩ := hrel
    by_cases hlt : j < n
    · have c1 : wr.cell? ⟨T, 1, none⟩ = some (.slice (some ⟨g1, 0, none⟩) n n) := hN.tab.cell 1 _ rfl
      obtain ⟨v1, d1⟩ := hN.r1.cell j hlt
      have f1 : wr.frozen? ⟨g1, j, none⟩ = false := hN.r1.frozen j
      have N1 := hN.row (by decide) hN.r1 hN.h1 j (.int .u32 (j : Int))
      have c2 : (wr.setCell ⟨g1, j, none⟩ (.int .u32 (j : Int))).cell? ⟨T, 2, none⟩ = some (.slice (some ⟨g2, 0, none⟩) n n) := N1.tab.cell 2 _ rfl
      obtain ⟨v2, d2⟩ := N1.r2.cell j hlt
      have f2 : wr.frozen? ⟨g2, j, none⟩ = false := hN.r2.frozen j
      have N2 := N1.row (by decide) N1.r2 hN.h2 j (.int .u32 (j : Int))
      have c3 : ((wr.setCell ⟨g1, j, none⟩ (.int .u32 (j : Int))).setCell ⟨g2, j, none⟩ (.int .u32 (j : Int))).cell? ⟨T, 3, none⟩ = some (.slice (some ⟨g3, 0, none⟩) n n) := N2.tab.cell 3 _ rfl
      obtain ⟨v3, d3⟩ := N2.r3.cell j hlt
      have f3 : wr.frozen? ⟨g3, j, none⟩ = false := hN.r3.frozen j
      have N3 := N2.row (by decide) N2.r3 hN.h3 j (.int .u32 (j : Int))
      clear N1 N2
      go_wp2
      go_roundw
      case rel => exact ⟨j + 1, by omega, by go_num, N3⟩
      case measure => simp [intOf]; omega
    · go_wp2
      obtain ⟨w3, rfl⟩ : ∃ w3 : World, w3 = wr := ⟨_, rfl⟩
      go_loopw [7] (fun i wr => ∃ r : Nat, r ≤ n - k ∧ i = .int .i64 ((n : Int) - 1 - r) ∧ NT w.heap.size n 27 26 w T g0 g1 g2 g3 g4 r wr) (fun i _ => (intOf i).toNat)
      case atStart => exact ⟨0, Nat.zero_le _, by go_num, hN⟩
      case round =>
        clear hN
        obtain ⟨r, hr, rfl, hN⟩ := hrel
        by_cases hlt2 : r < n - k
        · have c4 : wr.cell? ⟨T, 4, none⟩ = some (.slice (some ⟨g4, 0, none⟩) r (n - 1)) := hN.tab.cell 4 _ rfl
          have hne : ¬ g0 = T := fun h => hN.tab.ne hN.r0 (by decide) h.symm
          go_wp2_with (at_builtin; refine wpList_append_nt _ rfl _ _ 24 rfl 27 (.int .u32 0) 4 Yba.underlying24 info27 26 (by decide) (hN.alloc (.cells #[.int .u32 ((n : Int) - 1 - r)] 27)) (by omega) ⟨wr.heap.size, 0, none⟩ (.int .u32 ((n : Int) - 1 - r)) (by simp) rfl (by rfl) (by rfl) ?_; intro w4 M2; have c4b : w4.cell? ⟨T, 4, none⟩ = some (.slice (some ⟨g4, 0, none⟩) r (n - 1)) := M2.tab.cell 4 _ rfl; have f4b : w4.frozen? ⟨T, 4, none⟩ = false := M2.tab.frozen 4; have c0b : w4.cell? ⟨T, 0, none⟩ = some (.slice (some ⟨g0, 0, none⟩) n n) := M2.tab.cell 0 _ rfl; obtain ⟨v5, d0b⟩ := M2.r0.cell (n - 1 - r) (by omega); have f0b : w4.frozen? ⟨g0, n - 1 - r, none⟩ = false := M2.r0.frozen _)
          go_roundw
          case rel => exact ⟨r + 1, by omega, by go_num, (M2.len (r + 1)).row (by decide) (M2.len (r + 1)).r0 hN.h0 _ _⟩
          case measure => simp [intOf]; omega
        · have e0 : wr.cell? ⟨T, 0, none⟩ = some (.slice (some ⟨g0, 0, none⟩) n n) := hN.tab.cell 0 _ rfl
          have e1 : wr.cell? ⟨T, 1, none⟩ = some (.slice (some ⟨g1, 0, none⟩) n n) := hN.tab.cell 1 _ rfl
          have e2 : wr.cell? ⟨T, 2, none⟩ = some (.slice (some ⟨g2, 0, none⟩) n n) := hN.tab.cell 2 _ rfl
          have e3 : wr.cell? ⟨T, 3, none⟩ = some (.slice (some ⟨g3, 0, none⟩) n n) := hN.tab.cell 3 _ rfl
          have e4 : wr.cell? ⟨T, 4, none⟩ = some (.slice (some ⟨g4, 0, none⟩) r (n - 1)) := hN.tab.cell 4 _ rfl
          have k0 : wr.cell? ⟨w.heap.size, 0, none⟩ = some (.slice none 0 0) := hN.res.cell 0 _ rfl
          have k1 : wr.cell? ⟨w.heap.size, 1, none⟩ = some (.slice none 0 0) := hN.res.cell 1 _ rfl
          have k2 : wr.cell? ⟨w.heap.size, 2, none⟩ = some (.slice none 0 0) := hN.res.cell 2 _ rfl
          have k3 : wr.cell? ⟨w.heap.size, 3, none⟩ = some (.slice none 0 0) := hN.res.cell 3 _ rfl
          have k4 : wr.cell? ⟨w.heap.size, 4, none⟩ = some (.slice none 0 0) := hN.res.cell 4 _ rfl
          have q0 : wr.frozen? ⟨w.heap.size, 0, none⟩ = false := hN.res.frozen 0
          have q1 : wr.frozen? ⟨w.heap.size, 1, none⟩ = false := hN.res.frozen 1
          have q2 : wr.frozen? ⟨w.heap.size, 2, none⟩ = false := hN.res.frozen 2
          have q3 : wr.frozen? ⟨w.heap.size, 3, none⟩ = false := hN.res.frozen 3
          have q4 : wr.frozen? ⟨w.heap.size, 4, none⟩ = false := hN.res.frozen 4
          obtain rfl : r = n - k := by omega
          go_wp2
          exact bodyPost_ret (v := .agg #[.slice (some ⟨g0, 0, none⟩) n n, .slice (some ⟨g1, 0, none⟩) n n, .slice (some ⟨g2, 0, none⟩) n n, .slice (some ⟨g3, 0, none⟩) n n, .slice (some ⟨g4, 0, none⟩) (n - k) (n - 1)]) (by simp [results, Yba.results14, go_sem, k0, k1, k2, k3, k4]) rfl ⟨g0, g1, g2, g3, g4, rfl, ((((hN.bel.setCell (Nat.le_refl _) _).setCell (Nat.le_refl _) _).setCell (Nat.le_refl _) _).setCell (Nat.le_refl _) _).setCell (Nat.le_refl _) _⟩
end Go.Proofs.Ybulkadxm

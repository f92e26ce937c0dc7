/-
  THE SHELL OF A PROOF OF 'Rows.LawS1494BCountsSaid' ('example.com/mudskipper/mudskipper/anchor.LawS1494BCounts'), WRITTEN BY PROGRAM (proof-skeleton.mjs) off the guide's own print for that function. Not trusted: Lean checks it.
  THE WALK IS FILLED; its end says 'Below' (nothing that was there has turned). ALL ELSE IS THE GUIDE's TEMPLATE (howto/template/XProofs.lean) at this function's number and types: leave it.
-/
import Derived.Test.YbulkadxmRows
import Derived.Test.YbulkadxmPair
import Derived.Test.YbulkadxmWork
import Derived.WalkSmall
import Derived.WalkKit
import Derived.ProofKit
import Derived.OpenShut
import Derived.ShutString
namespace Go.Proofs.Ybulkadxm.lawS1494BCounts
open Go.ChangeShapes Go.WideShapes Go.ChangeAt Go.RowKit
open Go.ChangeMaps (open_string shut_string)
set_option linter.unusedVariables false      -- a walk need not use every 'w<i>' (that an integer argument fits its kind)

theorem own : ownKnob Yba.prog.godebug = none := by kernel_rfl

/-! ### STEP 1: THE WALK: the Go text returns true. 'Grown w w'': the world has at most new blocks (Derived/RowKit3.lean). Part the cases AHEAD of 'go_enter' where a test parts the walk; take each callee by a contract of your own. -/
theorem walk (a0 : Int) (a1 : Int) (a2 : Int) (a3 : Int) (w0 : (Lit.int .u16 a0).wf = true) (w1 : (Lit.int .u16 a1).wf = true) (w2 : (Lit.int .u16 a2).wf = true) (w3 : (Lit.int .u16 a3).wf = true) (w : World) :
    Calls Yba.prog 5 #[.int .u16 a0, .int .u16 a1, .int .u16 a2, .int .u16 a3] w fun e w' => e = .returned (.bool true) ∧ Below w.heap.size w w' := by
  obtain ⟨p0, p1⟩ := bounds_u16 w0
  obtain ⟨q0, q1⟩ := bounds_u16 w1
  obtain ⟨s0, s1⟩ := bounds_u16 w2
  obtain ⟨t0, t1⟩ := bounds_u16 w3
  obtain ⟨nc, hnc⟩ : ∃ n : Nat, a0 % 1025 = (n : Int) := ⟨(a0 % 1025).toNat, by omega⟩
  obtain ⟨nr, hnr⟩ : ∃ n : Nat, a1 % 1025 = (n : Int) := ⟨(a1 % 1025).toNat, by omega⟩
  obtain ⟨wc, hwc⟩ : ∃ n : Nat, a2 % 1025 = (n : Int) := ⟨(a2 % 1025).toNat, by omega⟩
  obtain ⟨wr, hwr⟩ : ∃ n : Nat, a3 % 1025 = (n : Int) := ⟨(a3 % 1025).toNat, by omega⟩
  have b1 : nc ≤ 1024 := by omega
  have b2 : nr ≤ 1024 := by omega
  have b3 : wc ≤ 1024 := by omega
  have b4 : wr ≤ 1024 := by omega
  go_enter Yba.func5, Yba.ntmps5
  go_wp2_with fail
  refine (narrow_any nc nr (by omega) (by omega) _).mono ?_
  rintro e w4 ⟨g0, g4, rfl, hb⟩
  go_wp2_with fail
  refine (wide_any wc wr (by omega) (by omega) _).mono ?_
  rintro e w5 ⟨g5, g9, rfl, hb'⟩
  have hz : w.heap.size ≤ w5.heap.size := Nat.le_trans hb.size hb'.size
  have hB : Below w.heap.size w w5 := hb.trans (hb'.mono hb.size)
  clear hb hb'
  by_cases hw : 0 < wc
  · have hw' : (0 : Int) < (wc : Int) := by omega
    go_wp2_with fail
    refine (work_wide _ nc nr wc wr hw (by omega) (by omega) _ (Anc.made _ _ _ rfl rfl rfl rfl)).mono ?_
    rintro e w6 ⟨rfl, q, rfl⟩
    go_wp2
    go_ret
    exact ⟨rfl, below_drewN (hB.alloc hz _) _⟩
  · obtain rfl : wc = 0 := by omega
    go_wp2_with fail
    refine (work_narrow _ nc nr wr (by omega) (by omega) _ (Anc.made _ _ _ rfl rfl rfl rfl)).mono ?_
    rintro e w6 ⟨rfl, q, rfl⟩
    go_wp2
    go_ret
    exact ⟨rfl, below_drewN (hB.alloc hz _) _⟩

/-! ### THE ROW's STEP: WRITTEN OUT: LEAVE IT -/
set_option maxRecDepth 100000 in
theorem lifted (os : Os) (started : os.Started) (H : Type) (enc : TypeId × Value → H) :
    ReturnsInHanded {} Yba.checked os 5 .any (Rows.lawS1494BCountsSpec.pre6 enc Yba.prog Yba.f5 Rows.lawS1494BCountsRow.domain false) (Rows.lawS1494BCountsSpec.post enc Yba.prog Yba.f5 false true false false) := by
  refine returnsInHanded_of_change (C := Yba.checked) own started (by kernel_rfl) Yba.func5
    (ChangeSpec.witness6 (enc := enc) (C := Yba.checked) false ⟨#[], #[.int .u16 0, .int .u16 0, .int .u16 0, .int .u16 0], []⟩ 8 (by kernel_rfl) (by kernel_rfl) (by kernel_rfl) (by kernel_rfl)) ?_
  intro W base args ds gs before hval0 hW hcnd _
  have hval : ∀ (j : Nat) t v, Yba.f5.params[j]? = some t → args[j]? = some v → Value.okWide Yba.prog W .any base t v := hval0
  have hW' := hW
  obtain ⟨p, q, hA0, hV, rfl, hfz, hnd⟩ := hW
  have hA : DataW.TrodAll enc Yba.prog W 0 (fun _ => true) true Yba.f5.params.toList args.toList ds p := hA0
  rw [Yba.params5] at hA hval
  obtain ⟨v0, vs0, d0, ds0, p0, q0, hargs, rfl, rfl, h0, r0⟩ := trodAll_cons hA
  obtain ⟨v1, vs1, d1, ds1, p1, q1, rfl, rfl, rfl, h1, r1⟩ := trodAll_cons r0
  obtain ⟨v2, vs2, d2, ds2, p2, q2, rfl, rfl, rfl, h2, r2⟩ := trodAll_cons r1
  obtain ⟨v3, vs3, d3, ds3, p3, q3, rfl, rfl, rfl, h3, r3⟩ := trodAll_cons r2
  obtain ⟨rfl, rfl, rfl⟩ := trodAll_nil r3
  obtain rfl : args = #[v0, v1, v2, v3] := by cases args; simp_all
  obtain ⟨rfl, rfl⟩ := trodVars_none hV
  obtain ⟨a0, rfl, rfl, rfl, w0⟩ := open_int Yba.underlying23 (hval 0 23 v0 rfl rfl) h0
  obtain ⟨a1, rfl, rfl, rfl, w1⟩ := open_int Yba.underlying23 (hval 1 23 v1 rfl rfl) h1
  obtain ⟨a2, rfl, rfl, rfl, w2⟩ := open_int Yba.underlying23 (hval 2 23 v2 rfl rfl) h2
  obtain ⟨a3, rfl, rfl, rfl, w3⟩ := open_int Yba.underlying23 (hval 3 23 v3 rfl rfl) h3
  clear hA0 hval0
  simp only [List.append_nil] at hW'
  refine (walk a0 a1 a2 a3 w0 w1 w2 w3 W).mono fun e W' ⟨he, hg⟩ => ?_
  subst he
  exact ⟨_, rfl, _, _, _, [], [], [], hW', trodAll_cons_mk (shut_bool Yba.underlying4 _) trodAll_mk0, trodAll_cons_mk (shut_int Yba.underlying23 w0) (trodAll_cons_mk (shut_int Yba.underlying23 w1) (trodAll_cons_mk (shut_int Yba.underlying23 w2) (trodAll_cons_mk (shut_int Yba.underlying23 w3) trodAll_mk0))), rfl, hg.frame _, fun h => by cases h⟩

theorem over : Rows.lawS1494BCountsRow.holds Yba.pinned (OpenSpec.ofChange Rows.lawS1494BCountsSpec) :=
  OpenClaim.holds_of_wide 5 Yba.f5 rfl rfl rfl rfl rfl rfl rfl ⟨rfl, rfl, rfl, rfl, rfl⟩ rfl rfl rfl rfl rfl (by kernel_rfl) Yba.func5 (by kernel_rfl)
    (of_decide_eq_true (by kernel_rfl)) (by unfold Func.isWrapper; first | (rw [if_pos (by decide +kernel)]; kernel_rfl) | (rw [if_neg (by decide +kernel)]; exact ⟨rfl, rfl⟩))
    (fun os started H enc _ => lifted os started H enc)

/-- ████ THE STATEMENT ████ -/
theorem proved : Rows.LawS1494BCountsSaid :=
  over
#print axioms proved
end Go.Proofs.Ybulkadxm.lawS1494BCounts

/-
  THE SHELL OF A PROOF OF 'Rows.LawS1494AFirst16Said' ('example.com/mudskipper/mudskipper/anchor.LawS1494AFirst16'), WRITTEN BY PROGRAM (proof-skeleton.mjs) off the guide's own print for that function. Not trusted: Lean checks it.
  THE WALK IS FILLED; its end says 'Below' (nothing that was there has turned). ALL ELSE IS THE GUIDE's TEMPLATE (howto/template/XProofs.lean) at this function's number and types: leave it.
-/
import Derived.Test.YbulkadxmRows
import Derived.Test.YbulkadxmFirst16
import Derived.Test.YbulkadxmNew16
import Derived.WalkSmall
import Derived.WalkKit
import Derived.ProofKit
import Derived.OpenShut
import Derived.ShutString
namespace Go.Proofs.Ybulkadxm.lawS1494AFirst16
open Go.ChangeShapes Go.WideShapes Go.ChangeAt Go.RowKit
open Go.ChangeMaps (open_string shut_string)
set_option linter.unusedVariables false      -- a walk need not use every 'w<i>' (that an integer argument fits its kind)

theorem own : ownKnob Yba.prog.godebug = none := by kernel_rfl

/-! ### STEP 1: THE WALK: the Go text returns true. 'Grown w w'': the world has at most new blocks (Derived/RowKit3.lean). Part the cases AHEAD of 'go_enter' where a test parts the walk; take each callee by a contract of your own. -/
theorem walk (a0 : Int) (a1 : Int) (a2 : Int) (w0 : (Lit.int .u64 a0).wf = true) (w1 : (Lit.int .u16 a1).wf = true) (w2 : (Lit.int .u16 a2).wf = true) (w : World) :
    Calls Yba.prog 4 #[.int .u64 a0, .int .u16 a1, .int .u16 a2] w fun e w' => e = .returned (.bool true) ∧ Below w.heap.size w w' := by
  obtain ⟨k0, k1⟩ := bounds_u64 w0
  obtain ⟨c0, c1⟩ := bounds_u16 w1
  obtain ⟨d0, d1⟩ := bounds_u16 w2
  obtain ⟨n, hn⟩ : ∃ n : Nat, a1 % 512 + 1 = (n : Int) := ⟨(a1 % 512 + 1).toNat, by omega⟩
  have hn1 : 1 ≤ n := by omega
  have hn2 : n ≤ 512 := by omega
  have s0 : 0 ≤ a2 % (n : Int) := Int.emod_nonneg _ (by omega)
  have s1 : a2 % (n : Int) < (n : Int) := Int.emod_lt_of_pos _ (by omega)
  obtain ⟨k, hk⟩ : ∃ k : Nat, a2 % (n : Int) + 1 = (k : Int) := ⟨(a2 % (n : Int) + 1).toNat, by omega⟩
  have hk1 : 1 ≤ k := by omega
  have hkn : k ≤ n := by omega
  obtain ⟨m0, m1⟩ := mixF_bd a0
  have r0 : 0 ≤ mixF a0 % (n : Int) := Int.emod_nonneg _ (by omega)
  have r1 : mixF a0 % (n : Int) < (n : Int) := Int.emod_lt_of_pos _ (by omega)
  go_enter Yba.func4, Yba.ntmps4
  go_wp2_with fail
  refine (nt16 n k hk1 hkn hn2 _).mono ?_
  rintro e w1 ⟨g0, g1, g2, g3, g4, rfl, hb⟩
  go_wp2_with fail
  refine (first16_any _ _ k0 k1 n hn1 (by omega) _ (some ⟨g0, 0, none⟩) n (by go_simp)).mono ?_
  rintro e w2 ⟨rfl, q, rfl⟩
  go_wp2_with (go_at_call 8; refine (zmix_any _ k0 k1 _).mono ?_; rintro e w' ⟨rfl, rfl⟩)
  go_ret
  exact ⟨rfl, below_drewN (hb.alloc hb.size _) _⟩

/-! ### THE ROW's STEP: WRITTEN OUT: LEAVE IT -/
set_option maxRecDepth 100000 in
theorem lifted (os : Os) (started : os.Started) (H : Type) (enc : TypeId × Value → H) :
    ReturnsInHanded {} Yba.checked os 4 .any (Rows.lawS1494AFirst16Spec.pre6 enc Yba.prog Yba.f4 Rows.lawS1494AFirst16Row.domain false) (Rows.lawS1494AFirst16Spec.post enc Yba.prog Yba.f4 false true false false) := by
  refine returnsInHanded_of_change (C := Yba.checked) own started (by kernel_rfl) Yba.func4
    (ChangeSpec.witness6 (enc := enc) (C := Yba.checked) false ⟨#[], #[.int .u64 0, .int .u16 0, .int .u16 0], []⟩ 8 (by kernel_rfl) (by kernel_rfl) (by kernel_rfl) (by kernel_rfl)) ?_
  intro W base args ds gs before hval0 hW hcnd _
  have hval : ∀ (j : Nat) t v, Yba.f4.params[j]? = some t → args[j]? = some v → Value.okWide Yba.prog W .any base t v := hval0
  have hW' := hW
  obtain ⟨p, q, hA0, hV, rfl, hfz, hnd⟩ := hW
  have hA : DataW.TrodAll enc Yba.prog W 0 (fun _ => true) true Yba.f4.params.toList args.toList ds p := hA0
  rw [Yba.params4] at hA hval
  obtain ⟨v0, vs0, d0, ds0, p0, q0, hargs, rfl, rfl, h0, r0⟩ := trodAll_cons hA
  obtain ⟨v1, vs1, d1, ds1, p1, q1, rfl, rfl, rfl, h1, r1⟩ := trodAll_cons r0
  obtain ⟨v2, vs2, d2, ds2, p2, q2, rfl, rfl, rfl, h2, r2⟩ := trodAll_cons r1
  obtain ⟨rfl, rfl, rfl⟩ := trodAll_nil r2
  obtain rfl : args = #[v0, v1, v2] := by cases args; simp_all
  obtain ⟨rfl, rfl⟩ := trodVars_none hV
  obtain ⟨a0, rfl, rfl, rfl, w0⟩ := open_int Yba.underlying22 (hval 0 22 v0 rfl rfl) h0
  obtain ⟨a1, rfl, rfl, rfl, w1⟩ := open_int Yba.underlying23 (hval 1 23 v1 rfl rfl) h1
  obtain ⟨a2, rfl, rfl, rfl, w2⟩ := open_int Yba.underlying23 (hval 2 23 v2 rfl rfl) h2
  clear hA0 hval0
  simp only [List.append_nil] at hW'
  refine (walk a0 a1 a2 w0 w1 w2 W).mono fun e W' ⟨he, hg⟩ => ?_
  subst he
  exact ⟨_, rfl, _, _, _, [], [], [], hW', trodAll_cons_mk (shut_bool Yba.underlying4 _) trodAll_mk0, trodAll_cons_mk (shut_int Yba.underlying22 w0) (trodAll_cons_mk (shut_int Yba.underlying23 w1) (trodAll_cons_mk (shut_int Yba.underlying23 w2) trodAll_mk0)), rfl, hg.frame _, fun h => by cases h⟩

theorem over : Rows.lawS1494AFirst16Row.holds Yba.pinned (OpenSpec.ofChange Rows.lawS1494AFirst16Spec) :=
  OpenClaim.holds_of_wide 4 Yba.f4 rfl rfl rfl rfl rfl rfl rfl ⟨rfl, rfl, rfl, rfl, rfl⟩ rfl rfl rfl rfl rfl (by kernel_rfl) Yba.func4 (by kernel_rfl)
    (of_decide_eq_true (by kernel_rfl)) (by unfold Func.isWrapper; first | (rw [if_pos (by decide +kernel)]; kernel_rfl) | (rw [if_neg (by decide +kernel)]; exact ⟨rfl, rfl⟩))
    (fun os started H enc _ => lifted os started H enc)

/-- ████ THE STATEMENT ████ -/
theorem proved : Rows.LawS1494AFirst16Said :=
  over
#print axioms proved
end Go.Proofs.Ybulkadxm.lawS1494AFirst16

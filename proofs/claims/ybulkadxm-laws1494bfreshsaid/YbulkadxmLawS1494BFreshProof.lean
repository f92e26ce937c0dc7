/-
  THE SHELL OF A PROOF OF 'Rows.LawS1494BFreshSaid' ('example.com/mudskipper/mudskipper/anchor.LawS1494BFresh'), WRITTEN BY PROGRAM (proof-skeleton.mjs) off the guide's own print for that function. Not trusted: Lean checks it.
  THE WALK IS FILLED; its end says 'Below' (nothing that was there has turned). ALL ELSE IS THE GUIDE's TEMPLATE (howto/template/XProofs.lean) at this function's number and types: leave it.
-/
import Derived.Test.YbulkadxmRows
import Derived.Test.YbulkadxmNew16
import Derived.Test.YbulkadxmNew32
import Derived.Test.YbulkadxmWork
import Derived.WalkSmall
import Derived.WalkKit
import Derived.ProofKit
import Derived.OpenShut
import Derived.ShutString
namespace Go.Proofs.Ybulkadxm.lawS1494BFresh
open Go.ChangeShapes Go.WideShapes Go.ChangeAt Go.RowKit
open Go.ChangeMaps (open_string shut_string)
set_option linter.unusedVariables false      -- a walk need not use every 'w<i>' (that an integer argument fits its kind)

theorem anc_drewN {w : World} {b nc nr wc wr q : Nat} (h : Anc w b nc nr wc wr) : Anc (w.drewN q) b nc nr wc wr := ⟨h.c0, h.c4, h.c5, h.c9⟩
theorem own : ownKnob Yba.prog.godebug = none := by kernel_rfl

/-! ### STEP 1: THE WALK: the Go text returns true. 'Grown w w'': the world has at most new blocks (Derived/RowKit3.lean). Part the cases AHEAD of 'go_enter' where a test parts the walk; take each callee by a contract of your own. -/
theorem walk (a0 : Int) (a1 : Int) (a2 : Bool) (w0 : (Lit.int .u16 a0).wf = true) (w1 : (Lit.int .u16 a1).wf = true) (w : World) :
    Calls Yba.prog 6 #[.int .u16 a0, .int .u16 a1, .bool a2] w fun e w' => e = .returned (.bool true) ∧ Below w.heap.size w w' := by
  obtain ⟨p0, p1⟩ := bounds_u16 w0
  obtain ⟨q0, q1⟩ := bounds_u16 w1
  obtain ⟨n, hn⟩ : ∃ n : Nat, a0 % 300 + 1 = (n : Int) := ⟨(a0 % 300 + 1).toNat, by omega⟩
  have hn1 : 1 ≤ n := by omega
  have hn2 : n ≤ 300 := by omega
  have s0 : 0 ≤ a1 % (n : Int) := Int.emod_nonneg _ (by omega)
  have s1 : a1 % (n : Int) < (n : Int) := Int.emod_lt_of_pos _ (by omega)
  obtain ⟨k, hk⟩ : ∃ k : Nat, a1 % (n : Int) + 1 = (k : Int) := ⟨(a1 % (n : Int) + 1).toNat, by omega⟩
  have hk1 : 1 ≤ k := by omega
  have hkn : k ≤ n := by omega
  have hw : 0 < n := hn1
  have heq : (n : Int) - ((n - k : Nat) : Int) = (k : Int) := by omega
  cases a2 with
  | false =>
    go_enter Yba.func6, Yba.ntmps6
    go_wp2_with fail
    refine (nt16 n k hk1 hkn (by omega) _).mono ?_
    rintro e w4 ⟨g0, g1, g2, g3, g4, rfl, hB⟩
    go_wp2_with fail
    refine (work_narrow _ n (n - k) 0 (by omega) (by omega) _ (Anc.made _ _ _ rfl rfl rfl rfl)).mono ?_
    rintro e w6 ⟨rfl, q, rfl⟩
    go_wp2_with fail
    refine (capa_narrow _ n (n - k) 0 _ (anc_drewN (Anc.made _ _ _ rfl rfl rfl rfl))).mono ?_
    rintro e w6 ⟨rfl, rfl⟩
    go_wp2
    go_ret
    exact ⟨rfl, below_drewN (hB.alloc hB.size _) _⟩
  | true =>
    go_enter Yba.func6, Yba.ntmps6
    go_wp2_with fail
    refine (nt32 n k hk1 hkn (by omega) _).mono ?_
    rintro e w4 ⟨g0, g1, g2, g3, g4, rfl, hB⟩
    go_wp2_with fail
    refine (work_wide _ 0 0 n (n - k) hw (by omega) (by omega) _ (Anc.made _ _ _ rfl rfl rfl rfl)).mono ?_
    rintro e w6 ⟨rfl, q, rfl⟩
    go_wp2_with fail
    refine (capa_wide _ 0 0 n (n - k) hw _ (anc_drewN (Anc.made _ _ _ rfl rfl rfl rfl))).mono ?_
    rintro e w6 ⟨rfl, rfl⟩
    go_wp2
    go_ret
    exact ⟨rfl, below_drewN (hB.alloc hB.size _) _⟩

/-! ### THE ROW's STEP: WRITTEN OUT: LEAVE IT -/
set_option maxRecDepth 100000 in
theorem lifted (os : Os) (started : os.Started) (H : Type) (enc : TypeId × Value → H) :
    ReturnsInHanded {} Yba.checked os 6 .any (Rows.lawS1494BFreshSpec.pre6 enc Yba.prog Yba.f6 Rows.lawS1494BFreshRow.domain false) (Rows.lawS1494BFreshSpec.post enc Yba.prog Yba.f6 false true false false) := by
  refine returnsInHanded_of_change (C := Yba.checked) own started (by kernel_rfl) Yba.func6
    (ChangeSpec.witness6 (enc := enc) (C := Yba.checked) false ⟨#[], #[.int .u16 0, .int .u16 0, .bool false], []⟩ 8 (by kernel_rfl) (by kernel_rfl) (by kernel_rfl) (by kernel_rfl)) ?_
  intro W base args ds gs before hval0 hW hcnd _
  have hval : ∀ (j : Nat) t v, Yba.f6.params[j]? = some t → args[j]? = some v → Value.okWide Yba.prog W .any base t v := hval0
  have hW' := hW
  obtain ⟨p, q, hA0, hV, rfl, hfz, hnd⟩ := hW
  have hA : DataW.TrodAll enc Yba.prog W 0 (fun _ => true) true Yba.f6.params.toList args.toList ds p := hA0
  rw [Yba.params6] at hA hval
  obtain ⟨v0, vs0, d0, ds0, p0, q0, hargs, rfl, rfl, h0, r0⟩ := trodAll_cons hA
  obtain ⟨v1, vs1, d1, ds1, p1, q1, rfl, rfl, rfl, h1, r1⟩ := trodAll_cons r0
  obtain ⟨v2, vs2, d2, ds2, p2, q2, rfl, rfl, rfl, h2, r2⟩ := trodAll_cons r1
  obtain ⟨rfl, rfl, rfl⟩ := trodAll_nil r2
  obtain rfl : args = #[v0, v1, v2] := by cases args; simp_all
  obtain ⟨rfl, rfl⟩ := trodVars_none hV
  obtain ⟨a0, rfl, rfl, rfl, w0⟩ := open_int Yba.underlying23 (hval 0 23 v0 rfl rfl) h0
  obtain ⟨a1, rfl, rfl, rfl, w1⟩ := open_int Yba.underlying23 (hval 1 23 v1 rfl rfl) h1
  obtain ⟨a2, rfl, rfl, rfl⟩ := open_bool Yba.underlying4 (hval 2 4 v2 rfl rfl) h2
  clear hA0 hval0
  simp only [List.append_nil] at hW'
  refine (walk a0 a1 a2 w0 w1 W).mono fun e W' ⟨he, hg⟩ => ?_
  subst he
  exact ⟨_, rfl, _, _, _, [], [], [], hW', trodAll_cons_mk (shut_bool Yba.underlying4 _) trodAll_mk0, trodAll_cons_mk (shut_int Yba.underlying23 w0) (trodAll_cons_mk (shut_int Yba.underlying23 w1) (trodAll_cons_mk (shut_bool Yba.underlying4 _) trodAll_mk0)), rfl, hg.frame _, fun h => by cases h⟩

theorem over : Rows.lawS1494BFreshRow.holds Yba.pinned (OpenSpec.ofChange Rows.lawS1494BFreshSpec) :=
  OpenClaim.holds_of_wide 6 Yba.f6 rfl rfl rfl rfl rfl rfl rfl ⟨rfl, rfl, rfl, rfl, rfl⟩ rfl rfl rfl rfl rfl (by kernel_rfl) Yba.func6 (by kernel_rfl)
    (of_decide_eq_true (by kernel_rfl)) (by unfold Func.isWrapper; first | (rw [if_pos (by decide +kernel)]; kernel_rfl) | (rw [if_neg (by decide +kernel)]; exact ⟨rfl, rfl⟩))
    (fun os started H enc _ => lifted os started H enc)

/-- ████ THE STATEMENT ████ -/
theorem proved : Rows.LawS1494BFreshSaid :=
  over
#print axioms proved
end Go.Proofs.Ybulkadxm.lawS1494BFresh

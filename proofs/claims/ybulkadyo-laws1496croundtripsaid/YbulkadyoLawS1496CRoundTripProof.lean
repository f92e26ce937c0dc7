/-
  THE SHELL OF A PROOF OF 'Rows.LawS1496CRoundTripSaid' ('example.com/pebblevault/pebblevault/protocol.LawS1496CRoundTrip'), WRITTEN BY PROGRAM (proof-skeleton.mjs) off the guide's own print for that function. Not trusted: Lean checks it.
  THE WALK IS FILLED; its end says 'Below' (nothing that was there has turned). ALL ELSE IS THE GUIDE's TEMPLATE (howto/template/XProofs.lean) at this function's number and types: leave it.
-/
import Derived.Test.YbulkadyoRows
import Derived.Test.YbulkadyoHex
import Derived.RegionTactic
import Derived.BigRegion
import Derived.WalkSmall
import Derived.WalkKit
import Derived.ProofKit
import Derived.OpenShut
import Derived.ShutString
namespace Go.Proofs.Ybulkadyo.lawS1496CRoundTrip
open Go.ChangeShapes Go.WideShapes Go.ChangeAt Go.RowKit
open Go.ChangeMaps (open_string shut_string)
set_option linter.unusedVariables false      -- a walk need not use every 'w<i>' (that an integer argument fits its kind)

theorem idx8_0 (w : World) : (Instr.index 9 (.string ⟨#[48, 49, 50, 51, 52, 53, 54, 55, 56, 57, 65, 66, 67, 68, 69, 70]⟩) (.int .u8 0)).run Yba.prog w = .ok (.int .u8 48) w := by kernel_rfl
theorem idx8_1 (w : World) : (Instr.index 9 (.string ⟨#[48, 49, 50, 51, 52, 53, 54, 55, 56, 57, 65, 66, 67, 68, 69, 70]⟩) (.int .u8 1)).run Yba.prog w = .ok (.int .u8 49) w := by kernel_rfl
theorem idx8_2 (w : World) : (Instr.index 9 (.string ⟨#[48, 49, 50, 51, 52, 53, 54, 55, 56, 57, 65, 66, 67, 68, 69, 70]⟩) (.int .u8 2)).run Yba.prog w = .ok (.int .u8 50) w := by kernel_rfl
theorem idx8_3 (w : World) : (Instr.index 9 (.string ⟨#[48, 49, 50, 51, 52, 53, 54, 55, 56, 57, 65, 66, 67, 68, 69, 70]⟩) (.int .u8 3)).run Yba.prog w = .ok (.int .u8 51) w := by kernel_rfl
theorem idx8_4 (w : World) : (Instr.index 9 (.string ⟨#[48, 49, 50, 51, 52, 53, 54, 55, 56, 57, 65, 66, 67, 68, 69, 70]⟩) (.int .u8 4)).run Yba.prog w = .ok (.int .u8 52) w := by kernel_rfl
theorem idx8_5 (w : World) : (Instr.index 9 (.string ⟨#[48, 49, 50, 51, 52, 53, 54, 55, 56, 57, 65, 66, 67, 68, 69, 70]⟩) (.int .u8 5)).run Yba.prog w = .ok (.int .u8 53) w := by kernel_rfl
theorem idx8_6 (w : World) : (Instr.index 9 (.string ⟨#[48, 49, 50, 51, 52, 53, 54, 55, 56, 57, 65, 66, 67, 68, 69, 70]⟩) (.int .u8 6)).run Yba.prog w = .ok (.int .u8 54) w := by kernel_rfl
theorem idx8_7 (w : World) : (Instr.index 9 (.string ⟨#[48, 49, 50, 51, 52, 53, 54, 55, 56, 57, 65, 66, 67, 68, 69, 70]⟩) (.int .u8 7)).run Yba.prog w = .ok (.int .u8 55) w := by kernel_rfl
theorem idx8_8 (w : World) : (Instr.index 9 (.string ⟨#[48, 49, 50, 51, 52, 53, 54, 55, 56, 57, 65, 66, 67, 68, 69, 70]⟩) (.int .u8 8)).run Yba.prog w = .ok (.int .u8 56) w := by kernel_rfl
theorem idx8_9 (w : World) : (Instr.index 9 (.string ⟨#[48, 49, 50, 51, 52, 53, 54, 55, 56, 57, 65, 66, 67, 68, 69, 70]⟩) (.int .u8 9)).run Yba.prog w = .ok (.int .u8 57) w := by kernel_rfl
theorem idx8_10 (w : World) : (Instr.index 9 (.string ⟨#[48, 49, 50, 51, 52, 53, 54, 55, 56, 57, 65, 66, 67, 68, 69, 70]⟩) (.int .u8 10)).run Yba.prog w = .ok (.int .u8 65) w := by kernel_rfl
theorem idx8_11 (w : World) : (Instr.index 9 (.string ⟨#[48, 49, 50, 51, 52, 53, 54, 55, 56, 57, 65, 66, 67, 68, 69, 70]⟩) (.int .u8 11)).run Yba.prog w = .ok (.int .u8 66) w := by kernel_rfl
theorem idx8_12 (w : World) : (Instr.index 9 (.string ⟨#[48, 49, 50, 51, 52, 53, 54, 55, 56, 57, 65, 66, 67, 68, 69, 70]⟩) (.int .u8 12)).run Yba.prog w = .ok (.int .u8 67) w := by kernel_rfl
theorem idx8_13 (w : World) : (Instr.index 9 (.string ⟨#[48, 49, 50, 51, 52, 53, 54, 55, 56, 57, 65, 66, 67, 68, 69, 70]⟩) (.int .u8 13)).run Yba.prog w = .ok (.int .u8 68) w := by kernel_rfl
theorem idx8_14 (w : World) : (Instr.index 9 (.string ⟨#[48, 49, 50, 51, 52, 53, 54, 55, 56, 57, 65, 66, 67, 68, 69, 70]⟩) (.int .u8 14)).run Yba.prog w = .ok (.int .u8 69) w := by kernel_rfl
theorem idx8_15 (w : World) : (Instr.index 9 (.string ⟨#[48, 49, 50, 51, 52, 53, 54, 55, 56, 57, 65, 66, 67, 68, 69, 70]⟩) (.int .u8 15)).run Yba.prog w = .ok (.int .u8 70) w := by kernel_rfl
theorem idx8 (k : Nat) (hk : k < 16) (w : World) : (Instr.index 9 (.string ⟨#[48, 49, 50, 51, 52, 53, 54, 55, 56, 57, 65, 66, 67, 68, 69, 70]⟩) (.int .u8 (k : Int))).run Yba.prog w = .ok (.int .u8 (tabAt k)) w := by
  rcases (show k = 0 ∨ k = 1 ∨ k = 2 ∨ k = 3 ∨ k = 4 ∨ k = 5 ∨ k = 6 ∨ k = 7 ∨ k = 8 ∨ k = 9 ∨ k = 10 ∨ k = 11 ∨ k = 12 ∨ k = 13 ∨ k = 14 ∨ k = 15 by omega) with rfl | rfl | rfl | rfl | rfl | rfl | rfl | rfl | rfl | rfl | rfl | rfl | rfl | rfl | rfl | rfl
  · exact idx8_0 w
  · exact idx8_1 w
  · exact idx8_2 w
  · exact idx8_3 w
  · exact idx8_4 w
  · exact idx8_5 w
  · exact idx8_6 w
  · exact idx8_7 w
  · exact idx8_8 w
  · exact idx8_9 w
  · exact idx8_10 w
  · exact idx8_11 w
  · exact idx8_12 w
  · exact idx8_13 w
  · exact idx8_14 w
  · exact idx8_15 w

theorem and15 (x : Int) (h0 : 0 ≤ x) (h1 : x ≤ 255) : bits BinOp.and IntKind.u8 x 15 = x % 16 := by
  have h := (by decide +kernel : ∀ m : Fin 256, bits BinOp.and IntKind.u8 (m.val : Int) 15 = (m.val : Int) % 16) ⟨x.toNat, by omega⟩
  have e : ((x.toNat : Nat) : Int) = x := by omega
  simpa only [e] using h

theorem tab_bd (k : Nat) (hk : k < 16) : 0 ≤ tabAt k ∧ tabAt k ≤ 70 := by unfold tabAt; by_cases h : k < 10 <;> simp [h] <;> omega
theorem two_digits (p q : Nat) (hp : p < 16) (hq : q < 16) (P Q : UInt8) (eP : (P.toNat : Int) = tabAt p) (eQ : (Q.toNat : Int) = tabAt q) : hexv 0 [P, Q] = some ((p : Int) * 16 + q) := by
  rw [hexv, hexv, hexv, eP, eQ, dig_tab p hp, dig_tab q hq, if_neg (by omega), if_neg (by omega)]
  congr 1
  omega

theorem own : ownKnob Yba.prog.godebug = none := by kernel_rfl

/-! ### STEP 1: THE WALK: the Go text returns true. 'Grown w w'': the world has at most new blocks (Derived/RowKit3.lean). Part the cases AHEAD of 'go_enter' where a test parts the walk; take each callee by a contract of your own. -/
theorem walk (a0 : Int) (w0 : (Lit.int .u8 a0).wf = true) (w : World) :
    Calls Yba.prog 4 #[.int .u8 a0] w fun e w' => e = .returned (.bool true) ∧ Below w.heap.size w w' := by
  obtain ⟨k0, k1⟩ := bounds_u8 w0
  obtain ⟨p, hp⟩ : ∃ p : Nat, a0 / 16 = (p : Int) := ⟨(a0 / 16).toNat, by omega⟩
  obtain ⟨q, hq⟩ : ∃ q : Nat, a0 % 16 = (q : Int) := ⟨(a0 % 16).toNat, by omega⟩
  have hp1 : p < 16 := by omega
  have hq1 : q < 16 := by omega
  have hsum : Hid ((p : Int) * 16 + q = a0) := by show (p : Int) * 16 + q = a0; omega
  have hand : bits BinOp.and IntKind.u8 a0 15 = (q : Int) := by rw [and15 a0 k0 k1, hq]
  clear hq
  have ip := idx8 p hp1
  have iq := idx8 q hq1
  obtain ⟨tp0, tp1⟩ := tab_bd p hp1
  obtain ⟨tq0, tq1⟩ := tab_bd q hq1
  obtain ⟨P, eP⟩ : ∃ P : UInt8, Hid ((P.toNat : Int) = tabAt p) := ⟨UInt8.ofNat (tabAt p).toNat, by show (_ : Int) = _; rw [UInt8.toNat_ofNat_of_lt' (by show _ < 256; omega)]; omega⟩
  obtain ⟨Q, eQ⟩ : ∃ Q : UInt8, Hid ((Q.toNat : Int) = tabAt q) := ⟨UInt8.ofNat (tabAt q).toNat, by show (_ : Int) = _; rw [UInt8.toNat_ofNat_of_lt' (by show _ < 256; omega)]; omega⟩
  go_enter Yba.func4, Yba.ntmps4
  go_wp2
  go_region
  have hstr : (convert 27 9 (.slice (some ⟨w.heap.size, 0, none⟩) 2 2)).run Yba.prog (w.alloc (.cells #[.int .u8 (tabAt p), .int .u8 (tabAt q)] 5)).drew = .ok (.string ⟨#[P, Q]⟩) (w.alloc (.cells #[.int .u8 (tabAt p), .int .u8 (tabAt q)] 5)).drew := by
    refine run_convert_bytes_back (P := Yba.prog) _ 27 9 5 ⟨w.heap.size, 0, none⟩ 2 [P, Q] Yba.underlying27 Yba.underlying5 Yba.underlying9 fun j hj => ?_
    match j, hj with
    | 0, _ => simp [Addr.add, eP.out]
    | 1, _ => simp [Addr.add, eQ.out]
  go_wp2_with fail
  refine (upper_yes ⟨#[P, Q]⟩ (by show 2 ≤ 4096; omega) a0 (by rw [← hsum.out]; exact two_digits p q hp1 hq1 P Q eP.out eQ.out) _).mono ?_
  rintro e w2 ⟨rfl, hb⟩
  go_wp2
  go_ret
  exact ⟨rfl, ((Below.refl _ _).alloc (Nat.le_refl _) _).drew.trans (hb.mono (by simp))⟩

/-! ### THE ROW's STEP: WRITTEN OUT: LEAVE IT -/
set_option maxRecDepth 100000 in
theorem lifted (os : Os) (started : os.Started) (H : Type) (enc : TypeId × Value → H) :
    ReturnsInHanded {} Yba.checked os 4 .any (Rows.lawS1496CRoundTripSpec.pre6 enc Yba.prog Yba.f4 Rows.lawS1496CRoundTripRow.domain false) (Rows.lawS1496CRoundTripSpec.post enc Yba.prog Yba.f4 false true false false) := by
  refine returnsInHanded_of_change (C := Yba.checked) own started (by kernel_rfl) Yba.func4
    (ChangeSpec.witness6 (enc := enc) (C := Yba.checked) false ⟨#[], #[.int .u8 0], []⟩ 8 (by kernel_rfl) (by kernel_rfl) (by kernel_rfl) (by kernel_rfl)) ?_
  intro W base args ds gs before hval0 hW hcnd _
  have hval : ∀ (j : Nat) t v, Yba.f4.params[j]? = some t → args[j]? = some v → Value.okWide Yba.prog W .any base t v := hval0
  have hW' := hW
  obtain ⟨p, q, hA0, hV, rfl, hfz, hnd⟩ := hW
  have hA : DataW.TrodAll enc Yba.prog W 0 (fun _ => true) true Yba.f4.params.toList args.toList ds p := hA0
  rw [Yba.params4] at hA hval
  obtain ⟨v0, vs0, d0, ds0, p0, q0, hargs, rfl, rfl, h0, r0⟩ := trodAll_cons hA
  obtain ⟨rfl, rfl, rfl⟩ := trodAll_nil r0
  obtain rfl : args = #[v0] := by cases args; simp_all
  obtain ⟨rfl, rfl⟩ := trodVars_none hV
  obtain ⟨a0, rfl, rfl, rfl, w0⟩ := open_int Yba.underlying5 (hval 0 5 v0 rfl rfl) h0
  clear hA0 hval0
  simp only [List.append_nil] at hW'
  refine (walk a0 w0 W).mono fun e W' ⟨he, hg⟩ => ?_
  subst he
  exact ⟨_, rfl, _, _, _, [], [], [], hW', trodAll_cons_mk (shut_bool Yba.underlying4 _) trodAll_mk0, trodAll_cons_mk (shut_int Yba.underlying5 w0) trodAll_mk0, rfl, hg.frame _, fun h => by cases h⟩

theorem over : Rows.lawS1496CRoundTripRow.holds Yba.pinned (OpenSpec.ofChange Rows.lawS1496CRoundTripSpec) :=
  OpenClaim.holds_of_wide 4 Yba.f4 rfl rfl rfl rfl rfl rfl rfl ⟨rfl, rfl, rfl, rfl, rfl⟩ rfl rfl rfl rfl rfl (by kernel_rfl) Yba.func4 (by kernel_rfl)
    (of_decide_eq_true (by kernel_rfl)) (by unfold Func.isWrapper; first | (rw [if_pos (by decide +kernel)]; kernel_rfl) | (rw [if_neg (by decide +kernel)]; exact ⟨rfl, rfl⟩))
    (fun os started H enc _ => lifted os started H enc)

/-- ████ THE STATEMENT ████ -/
theorem proved : Rows.LawS1496CRoundTripSaid :=
  over
#print axioms proved
end Go.Proofs.Ybulkadyo.lawS1496CRoundTrip

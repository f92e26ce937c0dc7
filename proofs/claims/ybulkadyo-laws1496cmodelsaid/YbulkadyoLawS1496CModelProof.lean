/-
  THE SHELL OF A PROOF OF 'Rows.LawS1496CModelSaid' ('example.com/pebblevault/pebblevault/protocol.LawS1496CModel'), WRITTEN BY PROGRAM (proof-skeleton.mjs) off the guide's own print for that function. Not trusted: Lean checks it.
  THE WALK IS FILLED; its end says 'Below' (nothing that was there has turned). ALL ELSE IS THE GUIDE's TEMPLATE (howto/template/XProofs.lean) at this function's number and types: leave it.
-/
import Derived.Test.YbulkadyoRows
import Derived.Test.YbulkadyoHex
import Derived.WalkSmall
import Derived.WalkKit
import Derived.ProofKit
import Derived.OpenShut
import Derived.ShutString
namespace Go.Proofs.Ybulkadyo.lawS1496CModel
open Go.ChangeShapes Go.WideShapes Go.ChangeAt Go.RowKit
open Go.ChangeMaps (open_string shut_string)
set_option linter.unusedVariables false      -- a walk need not use every 'w<i>' (that an integer argument fits its kind)

/-- All bytes are digits. -/
def al (l : List UInt8) : Bool := l.all fun c => decide (0 ≤ dig (c.toNat : Int))
theorem hexv_none : ∀ (v : Int) (l : List UInt8), hexv v l = none → al l = false
  | v, [], h => by simp [hexv] at h
  | v, c :: l, h => by
    rw [hexv] at h
    by_cases hd : dig (c.toNat : Int) < 0
    · unfold al; rw [List.all_cons, decide_eq_false (by omega), Bool.false_and]
    · rw [if_neg hd] at h
      have := hexv_none _ l h
      simp only [al, List.all_cons] at this ⊢
      rw [this]; simp
theorem hexv_some : ∀ (v : Int) (l : List UInt8) (x : Int), hexv v l = some x → al l = true
  | v, [], x, h => rfl
  | v, c :: l, x, h => by
    rw [hexv] at h
    by_cases hd : dig (c.toNat : Int) < 0
    · rw [if_pos hd] at h; cases h
    · rw [if_neg hd] at h
      have := hexv_some _ l x h
      simp only [al, List.all_cons] at this ⊢
      rw [this, decide_eq_true (by omega)]; rfl
theorem hexv_snoc : ∀ (v : Int) (l : List UInt8) (c : UInt8), hexv v (l ++ [c]) = (hexv v l).bind fun x => if dig (c.toNat : Int) < 0 then none else some (x % 16 * 16 + dig (c.toNat : Int))
  | v, [], c => rfl
  | v, d :: l, c => by
    rw [List.cons_append, hexv, hexv]
    by_cases hd : dig (d.toNat : Int) < 0
    · rw [if_pos hd, if_pos hd]; rfl
    · rw [if_neg hd, if_neg hd]; exact hexv_snoc _ l c
theorem snoc_some {l : List UInt8} {c : UInt8} {v x : Int} (h : hexv v (l ++ [c]) = some x) : ∃ y, hexv v l = some y ∧ 0 ≤ dig (c.toNat : Int) ∧ x = y % 16 * 16 + dig (c.toNat : Int) := by
  rw [hexv_snoc] at h
  cases hy : hexv v l with
  | none => rw [hy] at h; cases h
  | some y =>
    rw [hy] at h
    by_cases hd : dig (c.toNat : Int) < 0
    · simp only [Option.bind_some, if_pos hd] at h; cases h
    · simp only [Option.bind_some, if_neg hd, Option.some.injEq] at h; exact ⟨y, rfl, by omega, h.symm⟩
theorem take_at (s : ByteArray) (k : Nat) (h : k < s.size) : s.data.toList.take (k + 1) = s.data.toList.take k ++ [s[k]] := by
  have h' : k < s.data.toList.length := by simpa using h
  rw [List.take_succ_eq_append_getElem h']; rfl
theorem last0 (s : ByteArray) (h : s.size = 0) (v : Int) (hv : hexv 0 s.data.toList = some v) : v = 0 := by
  have e : s.data.toList = [] := List.eq_nil_of_length_eq_zero (by simpa using h)
  rw [e] at hv
  exact (Option.some.inj hv).symm
theorem last1 (s : ByteArray) (h : 1 ≤ s.size) (h' : s.size < 2) (v : Int) (hv : hexv 0 s.data.toList = some v) : v = dig (s[s.size - 1].toNat : Int) ∧ 0 ≤ dig (s[s.size - 1].toNat : Int) ∧ dig (s[s.size - 1].toNat : Int) ≤ 15 := by
  have e : s.data.toList = s.data.toList.take (s.size - 1) ++ [s[s.size - 1]] := by
    rw [← take_at s (s.size - 1) (by omega), List.take_of_length_le (by simp; omega)]
  have e0 : s.data.toList.take (s.size - 1) = [] := by rw [show s.size - 1 = 0 by omega]; rfl
  rw [e] at hv
  obtain ⟨y, hy, hd, hx⟩ := snoc_some hv
  rw [e0] at hy
  have hy0 : (0 : Int) = y := Option.some.inj hy
  have := dig_bd (s[s.size - 1].toNat : Int)
  exact ⟨by omega, hd, this.2⟩
theorem last2 (s : ByteArray) (h : 2 ≤ s.size) (v : Int) (hv : hexv 0 s.data.toList = some v) : v = dig (s[s.size - 1].toNat : Int) + 16 * dig (s[s.size - 2].toNat : Int) ∧ 0 ≤ dig (s[s.size - 1].toNat : Int) ∧ dig (s[s.size - 1].toNat : Int) ≤ 15 ∧ 0 ≤ dig (s[s.size - 2].toNat : Int) ∧ dig (s[s.size - 2].toNat : Int) ≤ 15 := by
  have e : s.data.toList = s.data.toList.take (s.size - 1) ++ [s[s.size - 1]] := by
    rw [← take_at s (s.size - 1) (by omega), List.take_of_length_le (by simp; omega)]
  have e2 : s.data.toList.take (s.size - 1) = s.data.toList.take (s.size - 2) ++ [s[s.size - 2]] := by
    rw [← take_at s (s.size - 2) (by omega), show s.size - 2 + 1 = s.size - 1 by omega]
  rw [e, e2] at hv
  obtain ⟨y, hy, hd, hx⟩ := snoc_some hv
  obtain ⟨y', hy', hd', hx'⟩ := snoc_some hy
  have b1 := dig_bd (s[s.size - 1].toNat : Int)
  have b2 := dig_bd (s[s.size - 2].toNat : Int)
  exact ⟨by omega, hd, b1.2, hd', b2.2⟩
theorem al_take (s : ByteArray) (k : Nat) (h : k < s.size) : al (s.data.toList.take (k + 1)) = (al (s.data.toList.take k) && decide (0 ≤ dig (s[k].toNat : Int))) := by
  have h' : k < s.data.toList.length := by simpa using h
  rw [List.take_succ_eq_append_getElem h']
  unfold al
  rw [List.all_append]
  simp
  rfl

theorem own : ownKnob Yba.prog.godebug = none := by kernel_rfl

/-! ### STEP 1: THE WALK: the Go text returns true. 'Grown w w'': the world has at most new blocks (Derived/RowKit3.lean). Part the cases AHEAD of 'go_enter' where a test parts the walk; take each callee by a contract of your own. -/
theorem walk (a0 : ByteArray) (w0 : a0.size ≤ maxLen) (w : World) :
    Calls Yba.prog 3 #[.string a0] w fun e w' => e = .returned (.bool true) ∧ Below w.heap.size w w' := by
  by_cases hbig : 4096 < a0.size
  · have hbig' : (4096 : Int) < (a0.size : Int) := by omega
    go_enter Yba.func3, Yba.ntmps3
    go_wp2
    go_ret
    exact ⟨rfl, Below.refl _ _⟩
  have hs : a0.size ≤ 4096 := by omega
  have hdz : decide ((4096 : Int) < (a0.size : Int)) = false := decide_eq_false (by omega)
  clear hbig
  cases hx : hexv 0 a0.data.toList with
  | none =>
    have HN : Hid (al a0.data.toList = false) := hexv_none 0 _ hx
    go_enter Yba.func3, Yba.ntmps3
    go_wp2_with fail
    refine (upper_no a0 hs hx _).mono ?_
    clear hx
    rintro e w1 ⟨rfl, hb⟩
    go_wp2
    go_loop [5, 6] (fun t i => ∃ k : Nat, ∃ b : Bool, k ≤ a0.size ∧ i = .int .i64 k ∧ t = .bool b ∧ Hid (b = al (a0.data.toList.take k))) (fun _ i => a0.size - (intOf i).toNat)
    case atStart => exact ⟨0, true, by omega, rfl, rfl, rfl⟩
    case round =>
      obtain ⟨k, b, hk, rfl, rfl, HB⟩ := hrel
      by_cases hlt : k < a0.size
      · have hc1 : a0[k].toNat < 256 := a0[k].toNat_lt
        have HS := al_take a0 k hlt
        go_wp2_with fail
        refine (digit_any _ (by omega) (by omega) _).mono ?_
        rintro e w2 ⟨rfl, rfl⟩
        by_cases hd : dig (a0[k].toNat : Int) < 0
        · have HT : Hid (false = al (a0.data.toList.take (k + 1))) := by
            show false = _
            rw [HS, decide_eq_false (by omega), Bool.and_false]
          clear HS HB
          go_wp2
          go_round
          case rel => exact ⟨k + 1, false, by omega, by go_num, rfl, HT⟩
          case measure => simp [intOf]; omega
        · have HT : Hid (b = al (a0.data.toList.take (k + 1))) := by
            show b = _
            rw [HS, decide_eq_true (by omega), Bool.and_true]; exact HB
          clear HS HB
          go_wp2
          go_round
          case rel => exact ⟨k + 1, b, by omega, by go_num, rfl, HT⟩
          case measure => simp [intOf]; omega
      · have hb' : b = al a0.data.toList := by rw [HB.out, List.take_of_length_le (by simp; omega)]
        rw [HN.out] at hb'
        clear HB HN
        subst hb'
        go_wp2
        go_ret
        exact ⟨rfl, hb⟩
  | some v =>
    have HN : Hid (al a0.data.toList = true) := hexv_some 0 _ v hx
    have HV : Hid (hexv 0 a0.data.toList = some v) := hx
    go_enter Yba.func3, Yba.ntmps3
    go_wp2_with fail
    refine (upper_yes a0 hs v hx _).mono ?_
    clear hx
    rintro e w1 ⟨rfl, hb⟩
    go_wp2
    go_loop [5, 6] (fun t i => ∃ k : Nat, ∃ b : Bool, k ≤ a0.size ∧ i = .int .i64 k ∧ t = .bool b ∧ Hid (b = al (a0.data.toList.take k))) (fun _ i => a0.size - (intOf i).toNat)
    case atStart => exact ⟨0, true, by omega, rfl, rfl, rfl⟩
    case round =>
      obtain ⟨k, b, hk, rfl, rfl, HB⟩ := hrel
      by_cases hlt : k < a0.size
      · have hc1 : a0[k].toNat < 256 := a0[k].toNat_lt
        have HS := al_take a0 k hlt
        go_wp2_with fail
        refine (digit_any _ (by omega) (by omega) _).mono ?_
        rintro e w2 ⟨rfl, rfl⟩
        by_cases hd : dig (a0[k].toNat : Int) < 0
        · have HT : Hid (false = al (a0.data.toList.take (k + 1))) := by
            show false = _
            rw [HS, decide_eq_false (by omega), Bool.and_false]
          clear HS HB
          go_wp2
          go_round
          case rel => exact ⟨k + 1, false, by omega, by go_num, rfl, HT⟩
          case measure => simp [intOf]; omega
        · have HT : Hid (b = al (a0.data.toList.take (k + 1))) := by
            show b = _
            rw [HS, decide_eq_true (by omega), Bool.and_true]; exact HB
          clear HS HB
          go_wp2
          go_round
          case rel => exact ⟨k + 1, b, by omega, by go_num, rfl, HT⟩
          case measure => simp [intOf]; omega
      · have hb' : b = al a0.data.toList := by rw [HB.out, List.take_of_length_le (by simp; omega)]
        rw [HN.out] at hb'
        clear HB HN
        subst hb'
        rcases (show a0.size = 0 ∨ (1 ≤ a0.size ∧ a0.size < 2) ∨ 2 ≤ a0.size by omega) with h0 | ⟨h1, h1'⟩ | h2
        · have e0 : v = 0 := last0 a0 h0 v HV.out
          have z1 : ¬ ((1 : Int) ≤ (a0.size : Int)) := by omega
          clear HV
          subst e0
          go_wp2
          go_ret
          exact ⟨rfl, hb⟩
        · obtain ⟨e1, d1, d2⟩ := last1 a0 h1 h1' v HV.out
          have z1 : (1 : Int) ≤ (a0.size : Int) := by omega
          have z2 : (a0.size : Int) < 2 := by omega
          have z3 : a0[a0.size - 1].toNat < 256 := a0[a0.size - 1].toNat_lt
          have E1 : Hid (v = dig (a0[a0.size - 1].toNat : Int)) := e1
          have v0 : 0 ≤ v := by omega
          have v1 : v ≤ 255 := by omega
          clear HV e1
          go_wp2_with fail
          refine (digit_any _ (by omega) (by omega) _).mono ?_
          rintro e w2 ⟨rfl, rfl⟩
          go_wp2
          go_ret
          exact ⟨ret_tup (congrArg Value.bool (beq_iff_eq.2 E1.out)), hb⟩
        · obtain ⟨e1, d1, d2, d3, d4⟩ := last2 a0 h2 v HV.out
          have z1 : (2 : Int) ≤ (a0.size : Int) := by omega
          have z3 : a0[a0.size - 1].toNat < 256 := a0[a0.size - 1].toNat_lt
          have z4 : a0[a0.size - 2].toNat < 256 := a0[a0.size - 2].toNat_lt
          have E1 : Hid (v = dig (a0[a0.size - 1].toNat : Int) + 16 * dig (a0[a0.size - 2].toNat : Int)) := e1
          have v0 : 0 ≤ v := by omega
          have v1 : v ≤ 255 := by omega
          clear HV e1
          go_wp2_with fail
          refine (digit_any _ (by omega) (by omega) _).mono ?_
          rintro e w2 ⟨rfl, rfl⟩
          go_wp2_with fail
          refine (digit_any _ (by omega) (by omega) _).mono ?_
          rintro e w2 ⟨rfl, rfl⟩
          go_wp2
          go_ret
          exact ⟨ret_tup (congrArg Value.bool (beq_iff_eq.2 E1.out)), hb⟩

/-! ### THE ROW's STEP: WRITTEN OUT: LEAVE IT -/
set_option maxRecDepth 100000 in
theorem lifted (os : Os) (started : os.Started) (H : Type) (enc : TypeId × Value → H) :
    ReturnsInHanded {} Yba.checked os 3 .any (Rows.lawS1496CModelSpec.pre6 enc Yba.prog Yba.f3 Rows.lawS1496CModelRow.domain false) (Rows.lawS1496CModelSpec.post enc Yba.prog Yba.f3 false true false false) := by
  refine returnsInHanded_of_change (C := Yba.checked) own started (by kernel_rfl) Yba.func3
    (ChangeSpec.witness6 (enc := enc) (C := Yba.checked) false ⟨#[], #[.string ByteArray.empty], []⟩ 8 (by kernel_rfl) (by kernel_rfl) (by kernel_rfl) (by kernel_rfl)) ?_
  intro W base args ds gs before hval0 hW hcnd _
  have hval : ∀ (j : Nat) t v, Yba.f3.params[j]? = some t → args[j]? = some v → Value.okWide Yba.prog W .any base t v := hval0
  have hW' := hW
  obtain ⟨p, q, hA0, hV, rfl, hfz, hnd⟩ := hW
  have hA : DataW.TrodAll enc Yba.prog W 0 (fun _ => true) true Yba.f3.params.toList args.toList ds p := hA0
  rw [Yba.params3] at hA hval
  obtain ⟨v0, vs0, d0, ds0, p0, q0, hargs, rfl, rfl, h0, r0⟩ := trodAll_cons hA
  obtain ⟨rfl, rfl, rfl⟩ := trodAll_nil r0
  obtain rfl : args = #[v0] := by cases args; simp_all
  obtain ⟨rfl, rfl⟩ := trodVars_none hV
  obtain ⟨a0, rfl, rfl, rfl, w0⟩ := open_string Yba.underlying9 (hval 0 9 v0 rfl rfl) h0
  clear hA0 hval0
  simp only [List.append_nil] at hW'
  refine (walk a0 w0 W).mono fun e W' ⟨he, hg⟩ => ?_
  subst he
  exact ⟨_, rfl, _, _, _, [], [], [], hW', trodAll_cons_mk (shut_bool Yba.underlying4 _) trodAll_mk0, trodAll_cons_mk (shut_string Yba.underlying9 w0) trodAll_mk0, rfl, hg.frame _, fun h => by cases h⟩

theorem over : Rows.lawS1496CModelRow.holds Yba.pinned (OpenSpec.ofChange Rows.lawS1496CModelSpec) :=
  OpenClaim.holds_of_wide 3 Yba.f3 rfl rfl rfl rfl rfl rfl rfl ⟨rfl, rfl, rfl, rfl, rfl⟩ rfl rfl rfl rfl rfl (by kernel_rfl) Yba.func3 (by kernel_rfl)
    (of_decide_eq_true (by kernel_rfl)) (by unfold Func.isWrapper; first | (rw [if_pos (by decide +kernel)]; kernel_rfl) | (rw [if_neg (by decide +kernel)]; exact ⟨rfl, rfl⟩))
    (fun os started H enc _ => lifted os started H enc)

/-- ████ THE STATEMENT ████ -/
theorem proved : Rows.LawS1496CModelSaid :=
  over
#print axioms proved
end Go.Proofs.Ybulkadyo.lawS1496CModel

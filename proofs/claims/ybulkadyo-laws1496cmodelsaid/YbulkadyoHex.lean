/- upperHex (5): its answer as a plain function of the bytes. -/
import Derived.Test.YbulkadyoDigit
import Derived.Laws.IdiomStrings
import Derived.OneCell
namespace Go.Proofs.Ybulkadyo
open Go.ChangeShapes Go.WideShapes Go.ChangeAt Go.RowKit
set_option linter.unusedVariables false

/-- '[]byte(s)': a new row, the bytes at its head; nothing that was there turns. -/
theorem to_bytes {P : Program} (w : World) (src dst e : TypeId) (s : ByteArray) (hs : P.underlying src = some .string) (hd : P.underlying dst = some (.slice e)) (he : P.underlying e = some (.int .u8)) :
    ∃ (b cap : Nat) (w1 : World), (convert src dst (.string s)).run P w = .ok (.slice (some ⟨b, 0, none⟩) s.size cap) w1 ∧ Below w.heap.size w w1 ∧ ∀ j (hj : j < s.size), w1.cell? ⟨b, j, none⟩ = some (.int .u8 (s[j].toNat : Int)) := by
  refine ⟨_, _, _, run_bytes_of_string w src dst e s hs hd he, (Below.refl _ _).drew.alloc (Nat.le_refl _) _, fun j hj => ?_⟩
  generalize grownCap w s.size 0 e = cap
  have hb : (w.drew.alloc (.cells (bytesRow s cap) e ((bytesRow s cap).size, (bytesRow s cap).size + 1))).heap[w.heap.size]? = some (.cells (bytesRow s cap) e ((bytesRow s cap).size, (bytesRow s cap).size + 1)) := by show (w.heap.push _)[_]? = _; simp
  have hj' : j < s.data.size := hj
  have hc : (bytesRow s cap)[j]? = some (.int .u8 (s[j].toNat : Int)) := by
    unfold bytesRow
    rw [Array.getElem?_append_left (by simpa using hj'), Array.getElem?_map, Array.getElem?_eq_getElem hj']
    rfl
  unfold World.cell?
  show (match (w.drew.alloc _).heap[w.heap.size]? with | some (.cells c _ _) => if (none : Option _).isSome then none else c[j]? | _ => none) = _
  rw [hb]
  exact hc

/-- What upperHex's loop comes to from the value v on. -/
def hexv : Int → List UInt8 → Option Int
  | v, [] => some v
  | v, c :: l => if dig (c.toNat : Int) < 0 then none else hexv (v % 16 * 16 + dig (c.toNat : Int)) l
def hexRes : Option Int → Value
  | some v => .tuple #[.int .u8 v, .bool true]
  | none => .tuple #[.int .u8 0, .bool false]

theorem or_nib (m d : Nat) (hm : m < 16) (hd : d < 16) : bits BinOp.or IntKind.u8 ((16 * m : Nat) : Int) (d : Int) = ((16 * m + d : Nat) : Int) :=
  (by decide +kernel : ∀ (m d : Fin 16), bits BinOp.or IntKind.u8 ((16 * m.val : Nat) : Int) (d.val : Int) = ((16 * m.val + d.val : Nat) : Int)) ⟨m, hm⟩ ⟨d, hd⟩
theorem or_hex (x d : Int) (hx0 : 0 ≤ x) (hd0 : 0 ≤ d) (hd1 : d ≤ 15) : bits BinOp.or IntKind.u8 (x * 16 % 256) d = x % 16 * 16 + d := by
  have h := or_nib (x % 16).toNat d.toNat (by omega) (by omega)
  rw [show x * 16 % 256 = ((16 * (x % 16).toNat : Nat) : Int) by omega, show d = ((d.toNat : Nat) : Int) by omega, h]
  omega

theorem drop_at (s : ByteArray) (k : Nat) (h : k < s.size) : s.data.toList.drop k = s[k] :: s.data.toList.drop (k + 1) := by
  have h' : k < s.data.toList.length := by simpa using h
  rw [List.drop_eq_getElem_cons h']
  rfl

theorem hexv_yes (v : Int) (s : ByteArray) (k : Nat) (h : k < s.size) (c : Int) (hc : (s[k].toNat : Int) = c) (hd : 0 ≤ dig c) : hexv v (s.data.toList.drop k) = hexv (v % 16 * 16 + dig c) (s.data.toList.drop (k + 1)) := by
  rw [drop_at s k h, hexv, hc, if_neg (by omega)]
theorem hexv_no (v : Int) (s : ByteArray) (k : Nat) (h : k < s.size) (c : Int) (hc : (s[k].toNat : Int) = c) (hd : dig c < 0) : hexv v (s.data.toList.drop k) = none := by
  rw [drop_at s k h, hexv, hc, if_pos hd]

theorem dig_low (c : Int) (h1 : 48 ≤ c) (h2 : c ≤ 57) : dig c = c - 48 := by unfold dig; rw [if_pos ⟨h1, h2⟩]
theorem dig_high (c : Int) (h1 : 65 ≤ c) (h2 : c ≤ 70) : dig c = c - 65 + 10 := by unfold dig; rw [if_neg (by omega), if_pos ⟨h1, h2⟩]; omega
theorem dig_out (c : Int) (h1 : ¬ (48 ≤ c ∧ c ≤ 57)) (h2 : ¬ (65 ≤ c ∧ c ≤ 70)) : dig c = -1 := by unfold dig; rw [if_neg h1, if_neg h2]

theorem ret_tup {a b : Value} (h : a = b) : Ending.returned a = .returned b := by rw [h]

theorem upper_any (s : ByteArray) (hs : s.size ≤ 4096) (w : World) :
    Calls Yba.prog 5 #[.string s] w fun e w' => e = .returned (hexRes (hexv 0 s.data.toList)) ∧ Below w.heap.size w w' := by
  obtain ⟨b, cap, w1, hrun, hbel, hcell⟩ := to_bytes (P := Yba.prog) w 9 27 5 s Yba.underlying9 Yba.underlying27 Yba.underlying5
  go_enter Yba.func5, Yba.ntmps5
  go_wp2
  go_loop [4, 10] (fun v i => ∃ k : Nat, ∃ x : Int, k ≤ s.size ∧ i = .int .i64 k ∧ v = .int .u8 x ∧ 0 ≤ x ∧ x ≤ 255 ∧ Hid (hexv x (s.data.toList.drop k) = hexv 0 s.data.toList)) (fun _ i => s.size - (intOf i).toNat)
  case atStart => exact ⟨0, 0, by omega, rfl, rfl, by omega, by omega, rfl⟩
  case round =>
    obtain ⟨k, x, hk, rfl, rfl, hx0, hx1, HX⟩ := hrel
    by_cases hlt : k < s.size
    · have hc := hcell k hlt
      clear hcell
      obtain ⟨c, hcd⟩ : ∃ c : Int, (s[k].toNat : Int) = c := ⟨_, rfl⟩
      have hc0 : 0 ≤ c := by omega
      have hc1 : c ≤ 255 := by have := s[k].toNat_lt; omega
      rw [hcd] at hc
      have HC : Hid ((s[k].toNat : Int) = c) := hcd
      clear hcd
      by_cases hA : 48 ≤ c ∧ c ≤ 57
      · obtain ⟨a1, a2⟩ := hA
        go_wp2
        go_round
        case rel =>
          have e1 := dig_low c a1 a2
          exact ⟨k + 1, x % 16 * 16 + (c - 48), by omega, by go_num, by rw [or_hex x _ hx0 (by omega) (by omega)], by omega, by omega, by rw [← e1, ← hexv_yes x s k hlt c HC.out (by omega)]; exact HX⟩
        case measure => simp [intOf]; omega
      · by_cases hB : 65 ≤ c ∧ c ≤ 70
        · obtain ⟨b1, b2⟩ := hB
          have hA' : ¬ c ≤ 57 := by omega
          clear hA
          go_wp2
          go_round
          case rel =>
            have e1 := dig_high c b1 b2
            exact ⟨k + 1, x % 16 * 16 + (c - 65 + 10), by omega, by go_num, by rw [or_hex x _ hx0 (by omega) (by omega)], by omega, by omega, by rw [← e1, ← hexv_yes x s k hlt c HC.out (by omega)]; exact HX⟩
          case measure => simp [intOf]; omega
        · have HN : Hid (hexv 0 s.data.toList = none) := by rw [← HX.out]; exact hexv_no x s k hlt c HC.out (by rw [dig_out c hA hB]; omega)
          clear HX HC
          rcases (show c < 48 ∨ (57 < c ∧ c < 65) ∨ 70 < c by omega) with h | ⟨h, h'⟩ | h
          all_goals
            clear hA hB
            go_wp2
            go_ret2
            exact ⟨ret_tup (by rw [HN.out]; rfl), hbel⟩
    · clear hcell
      have HN : Hid (hexv 0 s.data.toList = some x) := by rw [← HX.out, List.drop_of_length_le (by simp; omega)]; rfl
      clear HX
      go_wp2
      go_ret2
      exact ⟨ret_tup (by rw [HN.out]; rfl), hbel⟩

theorem upper_yes (s : ByteArray) (hs : s.size ≤ 4096) (v : Int) (hv : hexv 0 s.data.toList = some v) (w : World) :
    Calls Yba.prog 5 #[.string s] w fun e w' => e = .returned (.tuple #[.int .u8 v, .bool true]) ∧ Below w.heap.size w w' :=
  (upper_any s hs w).mono fun e w' ⟨he, hb⟩ => ⟨by rw [he, hv]; rfl, hb⟩
theorem upper_no (s : ByteArray) (hs : s.size ≤ 4096) (hv : hexv 0 s.data.toList = none) (w : World) :
    Calls Yba.prog 5 #[.string s] w fun e w' => e = .returned (.tuple #[.int .u8 0, .bool false]) ∧ Below w.heap.size w w' :=
  (upper_any s hs w).mono fun e w' ⟨he, hb⟩ => ⟨by rw [he, hv]; rfl, hb⟩
end Go.Proofs.Ybulkadyo

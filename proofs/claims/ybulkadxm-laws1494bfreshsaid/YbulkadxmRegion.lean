/- 'newTable''s struct literal: one region of fourteen operations, six of them making memory, in whatever order it is drawn. Written for both instances (uint16, uint32). -/
import Derived.Test.YbulkadxmInv
import Derived.Test.YbulkadxmTab
namespace Go.Proofs.Ybulkadxm
open Go Go.RowKit
set_option linter.unusedVariables false
set_option linter.unusedSimpArgs false

theorem below_setRow {B : Nat} {a w : World} (h : Below B a w) {g : Nat} (hp : B ≤ g) (cs : Array Value) : Below B a (w.setRow g cs) :=
  h.trans ⟨rfl, rfl, rfl, by simp [World.setRow], fun k hk => setRow_other _ _ _ _ (by omega)⟩
theorem Row.setRow {w : World} {g : Nat} {e : TypeId} {m : Nat} (h : Row w g e m) {T : Nat} (hT : T ≠ g) (cs : Array Value) : Row (w.setRow T cs) g e m := by
  obtain ⟨c, h, hs⟩ := h
  exact ⟨c, by rw [setRow_other _ _ _ _ (Ne.symm hT)]; exact h, hs⟩
theorem IsRow.setRow {B : Nat} {e tt : TypeId} {len cap : Nat} {x : Value} {w : World} (h : IsRow B e len cap x w) {T : Nat} {c : Array Value} (hT : Tab w T tt c) (he : tt ≠ e) (cs : Array Value) : IsRow B e len cap x (w.setRow T cs) := by
  obtain ⟨g, h1, h2, h3⟩ := h; exact ⟨g, h1, h2, h3.setRow (hT.ne h3 he) cs⟩
theorem Tab.setRow {w : World} {T : Nat} {s : TypeId} {c : Array Value} (h : Tab w T s c) (cs : Array Value) : Tab (w.setRow T cs) T s cs := setRow_heap _ _ _ _ _ _ h

/-- An operation that ends in a value. -/
theorem wp_of_run {P : Program} {o : Oper} {a : Act} {w w' : World} {v : Value} {K : Act → World → Prop} {Q : Exit → Act → World → Prop} (h : (execOp a.eval o).run P w = .ok (.value v) w') (hK : K (a.put o.dst v) w') : Oper.wp P o a w K Q := by
  unfold Oper.wp; rw [h]; exact hK
theorem wp_make {P : Program} {o : Oper} {a : Act} {w w' : World} {v x y : Value} {K : Act → World → Prop} {Q : Exit → Act → World → Prop} {t : TypeId} {l c : Operand} (hop : o.op = Op.makeSlice t l c) (hl : a.eval l = x) (hc : a.eval c = y)
    (h : (Instr.makeSlice t x y).run P w = .ok v w') (hK : K (a.put o.dst v) w') : Oper.wp P o a w K Q := by
  unfold Oper.wp; simp [execOp, hop, hl, hc, h, Result.andThen]; exact hK
theorem wp_alloc {P : Program} {o : Oper} {a : Act} {w w' : World} {v : Value} {K : Act → World → Prop} {Q : Exit → Act → World → Prop} {t : TypeId} (hop : o.op = Op.alloc t)
    (h : (Instr.alloc t true (.tuple #[])).run P w = .ok v w') (hK : K (a.put o.dst v) w') : Oper.wp P o a w K Q := by
  unfold Oper.wp; simp [execOp, hop, h, Result.andThen]; exact hK
theorem wp_built {P : Program} {o : Oper} {a : Act} {w w' : World} {v : Value} {K : Act → World → Prop} {Q : Exit → Act → World → Prop} {t : TypeId} {ps : Array (Nat × Operand)} {vs : Array (Nat × Value)} (hop : o.op = Op.build t ps) (hv : (ps.map fun (i, x) => (i, a.eval x)) = vs)
    (h : (Instr.build t vs).run P w = .ok v w') (hK : K (a.put o.dst v) w') : Oper.wp P o a w K Q := by
  subst hv; unfold Oper.wp; simp [execOp, hop, h, Result.andThen]; exact hK
theorem wp_binOp {P : Program} {o : Oper} {a : Act} {w w' : World} {v x y : Value} {K : Act → World → Prop} {Q : Exit → Act → World → Prop} {op : BinOp} {t t' : TypeId} {l c : Operand} (hop : o.op = Op.binOp op t l c t') (hl : a.eval l = x) (hc : a.eval c = y)
    (h : (do eqGuard op t l c x y; binOp op t x y : Sem Value).run P w = .ok v w') (hK : K (a.put o.dst v) w') : Oper.wp P o a w K Q := by
  unfold Oper.wp; simp only [execOp, hop, hl, hc]; rw [Sem.run_bind, h]; exact hK

/-- What holds when some of the fourteen have come up: b<i>: number i has. -/
structure RI (B n : Nat) (e tt : TypeId) (w1 : World) (b0 b1 b2 b3 b4 b5 b6 b7 b8 b9 b10 b11 b12 b13 : Bool) (x5 x8 x9 x10 x11 x12 x13 x14 x15 x16 x17 x18 x19 : Value) (w : World) : Prop where
  bel : Below (B + 1) w1 w
  h0 : b0 = true → x8 = .int .i64 n
  h1 : b1 = true → IsRow B e n n x9 w
  h2 : b2 = true → x10 = .int .i64 n
  h3 : b3 = true → IsRow B e n n x11 w
  h4 : b4 = true → x12 = .int .i64 n
  h5 : b5 = true → IsRow B e n n x13 w
  h6 : b6 = true → x14 = .int .i64 n
  h7 : b7 = true → IsRow B e n n x15 w
  h8 : b8 = true → x16 = .int .i64 n
  h9 : b9 = true → x17 = .int .i64 ((n : Int) - 1)
  h10 : b10 = true → IsRow B e 0 (n - 1) x18 w
  h11 : b11 = true → x19 = .agg #[x9, x11, x13, x15, x18] ∧ b1 = true ∧ b3 = true ∧ b5 = true ∧ b7 = true ∧ b10 = true
  h12 : b12 = true → ∃ T, x5 = .pointer (some ⟨T, 0, none⟩) ∧ B < T ∧ Tab w T tt (bif b13 then #[x9, x11, x13, x15, x18] else #[.slice none 0 0, .slice none 0 0, .slice none 0 0, .slice none 0 0, .slice none 0 0])
  h13 : b13 = true → b11 = true
  h13b : b13 = true → b12 = true

theorem region_tab {P : Program} (ps : String) (ts tt e : TypeId) (hte : tt ≠ e) (B n : Nat) (x0 x1 x4 : Value) (z : Value) (w1 : World) (hB : w1.heap.size = B + 1) (hx0 : x0 = .int .i64 n)
    (hmk : ∀ w, (Instr.makeSlice ts (.int .i64 (n : Int)) (.int .i64 (n : Int))).run P w = .ok (.slice (some ⟨w.heap.size, 0, none⟩) n n) (w.alloc (.cells (madeCells #[z] n) e)))
    (hmk0 : ∀ w, (Instr.makeSlice ts (.int .i64 0) (.int .i64 ((n : Int) - 1))).run P w = .ok (.slice (some ⟨w.heap.size, 0, none⟩) 0 (n - 1)) (w.alloc (.cells (madeCells #[z] (n - 1)) e)))
    (hal : ∀ w, (Instr.alloc tt true (.tuple #[])).run P w = .ok (.pointer (some ⟨w.heap.size, 0, none⟩)) (w.alloc (.cells #[.slice none 0 0, .slice none 0 0, .slice none 0 0, .slice none 0 0, .slice none 0 0] tt)))
    (hbu : ∀ (g0 g1 g2 g3 g4 : Nat) w, (Instr.build tt #[(0, .slice (some ⟨g0, 0, none⟩) n n), (1, .slice (some ⟨g1, 0, none⟩) n n), (2, .slice (some ⟨g2, 0, none⟩) n n), (3, .slice (some ⟨g3, 0, none⟩) n n), (4, .slice (some ⟨g4, 0, none⟩) 0 (n - 1))]).run P w = .ok (.agg #[.slice (some ⟨g0, 0, none⟩) n n, .slice (some ⟨g1, 0, none⟩) n n, .slice (some ⟨g2, 0, none⟩) n n, .slice (some ⟨g3, 0, none⟩) n n, .slice (some ⟨g4, 0, none⟩) 0 (n - 1)]) w)
    (hsub : ∀ w, (do eqGuard BinOp.sub 3 (Operand.tmp 16) (Operand.const (Value.int IntKind.i64 1)) (.int .i64 (n : Int)) (.int .i64 1); binOp BinOp.sub 3 (.int .i64 (n : Int)) (.int .i64 1) : Sem Value).run P w = .ok (.int .i64 ((n : Int) - 1)) w)
    (hsz : (P.info? tt).map (·.size) = some 5) (Q : Exit → Act → World → Prop)
    (hQ : ∀ (T g0 g1 g2 g3 g4 : Nat) (w : World), Below (B + 1) w1 w → B < T → B < g0 → B < g1 → B < g2 → B < g3 → B < g4 → Row w g0 e n → Row w g1 e n → Row w g2 e n → Row w g3 e n → Row w g4 e (n - 1) →
      Tab w T tt #[.slice (some ⟨g0, 0, none⟩) n n, .slice (some ⟨g1, 0, none⟩) n n, .slice (some ⟨g2, 0, none⟩) n n, .slice (some ⟨g3, 0, none⟩) n n, .slice (some ⟨g4, 0, none⟩) 0 (n - 1)] →
      Q .normal ⟨(x0 :: x1 :: undef :: undef :: x4 :: .pointer (some ⟨T, 0, none⟩) :: undef :: undef :: x0 :: .slice (some ⟨g0, 0, none⟩) n n :: x0 :: .slice (some ⟨g1, 0, none⟩) n n :: x0 :: .slice (some ⟨g2, 0, none⟩) n n :: x0 :: .slice (some ⟨g3, 0, none⟩) n n :: x0 :: .int .i64 ((n : Int) - 1) :: .slice (some ⟨g4, 0, none⟩) 0 (n - 1) :: .agg #[.slice (some ⟨g0, 0, none⟩) n n, .slice (some ⟨g1, 0, none⟩) n n, .slice (some ⟨g2, 0, none⟩) n n, .slice (some ⟨g3, 0, none⟩) n n, .slice (some ⟨g4, 0, none⟩) 0 (n - 1)] :: undef :: undef :: undef :: undef :: undef :: undef :: undef :: undef :: undef :: undef :: undef :: undef :: undef :: undef :: undef :: undef :: undef :: undef :: undef :: undef :: undef :: undef :: undef :: undef :: undef :: undef :: undef :: undef :: undef :: undef :: undef :: undef :: undef :: undef :: undef :: undef :: undef :: undef :: undef :: undef :: undef :: undef :: undef :: undef :: []).toArray, []⟩ w) :
    wpAny P .any #[{ dst := some 8, op := Op.move (Operand.tmp 0), type := 3, pos := ps, after := #[], guard := none }, { dst := some 9, op := Op.makeSlice ts (Operand.tmp 8) (Operand.tmp 8), type := ts, pos := ps, after := #[{ on := 0, ground := Ground.data }, { on := 0, ground := Ground.data }], guard := none }, { dst := some 10, op := Op.move (Operand.tmp 0), type := 3, pos := ps, after := #[], guard := none }, { dst := some 11, op := Op.makeSlice ts (Operand.tmp 10) (Operand.tmp 10), type := ts, pos := ps, after := #[{ on := 2, ground := Ground.data }, { on := 2, ground := Ground.data }], guard := none }, { dst := some 12, op := Op.move (Operand.tmp 0), type := 3, pos := ps, after := #[], guard := none }, { dst := some 13, op := Op.makeSlice ts (Operand.tmp 12) (Operand.tmp 12), type := ts, pos := ps, after := #[{ on := 4, ground := Ground.data }, { on := 4, ground := Ground.data }], guard := none }, { dst := some 14, op := Op.move (Operand.tmp 0), type := 3, pos := ps, after := #[], guard := none }, { dst := some 15, op := Op.makeSlice ts (Operand.tmp 14) (Operand.tmp 14), type := ts, pos := ps, after := #[{ on := 6, ground := Ground.data }, { on := 6, ground := Ground.data }], guard := none }, { dst := some 16, op := Op.move (Operand.tmp 0), type := 3, pos := ps, after := #[], guard := none }, { dst := some 17, op := Op.binOp BinOp.sub 3 (Operand.tmp 16) (Operand.const (Value.int IntKind.i64 1)) 3, type := 3, pos := ps, after := #[{ on := 8, ground := Ground.data }], guard := none }, { dst := some 18, op := Op.makeSlice ts (Operand.const (Value.int IntKind.i64 0)) (Operand.tmp 17), type := ts, pos := ps, after := #[{ on := 9, ground := Ground.data }], guard := none }, { dst := some 19, op := Op.build tt #[(0, Operand.tmp 9), (1, Operand.tmp 11), (2, Operand.tmp 13), (3, Operand.tmp 15), (4, Operand.tmp 18)], type := tt, pos := ps, after := #[{ on := 1, ground := Ground.data }, { on := 3, ground := Ground.data }, { on := 5, ground := Ground.data }, { on := 7, ground := Ground.data }, { on := 10, ground := Ground.data }], guard := none }, { dst := some 5, op := Op.alloc tt, type := 0, pos := ps, after := #[], guard := none }, { dst := none, op := Op.store tt (Operand.tmp 5) (Operand.tmp 19), type := 0, pos := ps, after := #[{ on := 12, ground := Ground.data }, { on := 11, ground := Ground.data }, { on := 0, ground := Ground.phase }, { on := 1, ground := Ground.phase }, { on := 2, ground := Ground.phase }, { on := 3, ground := Ground.phase }, { on := 4, ground := Ground.phase }, { on := 5, ground := Ground.phase }, { on := 6, ground := Ground.phase }, { on := 7, ground := Ground.phase }, { on := 8, ground := Ground.phase }, { on := 9, ground := Ground.phase }, { on := 10, ground := Ground.phase }, { on := 11, ground := Ground.phase }, { on := 12, ground := Ground.phase }], guard := none }] Q 14 (Array.replicate 14 false) ⟨(x0 :: x1 :: undef :: undef :: x4 :: undef :: undef :: undef :: undef :: undef :: undef :: undef :: undef :: undef :: undef :: undef :: undef :: undef :: undef :: undef :: undef :: undef :: undef :: undef :: undef :: undef :: undef :: undef :: undef :: undef :: undef :: undef :: undef :: undef :: undef :: undef :: undef :: undef :: undef :: undef :: undef :: undef :: undef :: undef :: undef :: undef :: undef :: undef :: undef :: undef :: undef :: undef :: undef :: undef :: undef :: undef :: undef :: undef :: undef :: undef :: undef :: undef :: undef :: undef :: []).toArray, []⟩ w1 := by
  subst hx0
  refine wpAny_inv (fun l a w => ∃ (b0 b1 b2 b3 b4 b5 b6 b7 b8 b9 b10 b11 b12 b13 : Bool) (x5 x8 x9 x10 x11 x12 x13 x14 x15 x16 x17 x18 x19 : Value), l = #[b0, b1, b2, b3, b4, b5, b6, b7, b8, b9, b10, b11, b12, b13] ∧ a = ⟨(.int .i64 (n : Int) :: x1 :: undef :: undef :: x4 :: x5 :: undef :: undef :: x8 :: x9 :: x10 :: x11 :: x12 :: x13 :: x14 :: x15 :: x16 :: x17 :: x18 :: x19 :: undef :: undef :: undef :: undef :: undef :: undef :: undef :: undef :: undef :: undef :: undef :: undef :: undef :: undef :: undef :: undef :: undef :: undef :: undef :: undef :: undef :: undef :: undef :: undef :: undef :: undef :: undef :: undef :: undef :: undef :: undef :: undef :: undef :: undef :: undef :: undef :: undef :: undef :: undef :: undef :: undef :: undef :: undef :: undef :: []).toArray, []⟩ ∧ RI B n e tt w1 b0 b1 b2 b3 b4 b5 b6 b7 b8 b9 b10 b11 b12 b13 x5 x8 x9 x10 x11 x12 x13 x14 x15 x16 x17 x18 x19 w) ?_ ?_ ?_ ?_ ?_ 14 _ _ _ (by decide)
    ⟨false, false, false, false, false, false, false, false, false, false, false, false, false, false, undef, undef, undef, undef, undef, undef, undef, undef, undef, undef, undef, undef, undef, rfl, rfl, ?_⟩
  · rintro l a w ⟨b0, b1, b2, b3, b4, b5, b6, b7, b8, b9, b10, b11, b12, b13, x5, x8, x9, x10, x11, x12, x13, x14, x15, x16, x17, x18, x19, rfl, rfl, hI⟩; rfl
  · intro i o ho
    have hi : i < 14 := (Array.getElem?_eq_some_iff.1 ho).1
    match i, hi, ho with
    | 0, _, ho => simp only [List.getElem?_toArray, List.getElem?_cons_zero, List.getElem?_cons_succ, Option.some.injEq] at ho; subst ho; rfl
    | 1, _, ho => simp only [List.getElem?_toArray, List.getElem?_cons_zero, List.getElem?_cons_succ, Option.some.injEq] at ho; subst ho; rfl
    | 2, _, ho => simp only [List.getElem?_toArray, List.getElem?_cons_zero, List.getElem?_cons_succ, Option.some.injEq] at ho; subst ho; rfl
    | 3, _, ho => simp only [List.getElem?_toArray, List.getElem?_cons_zero, List.getElem?_cons_succ, Option.some.injEq] at ho; subst ho; rfl
    | 4, _, ho => simp only [List.getElem?_toArray, List.getElem?_cons_zero, List.getElem?_cons_succ, Option.some.injEq] at ho; subst ho; rfl
    | 5, _, ho => simp only [List.getElem?_toArray, List.getElem?_cons_zero, List.getElem?_cons_succ, Option.some.injEq] at ho; subst ho; rfl
    | 6, _, ho => simp only [List.getElem?_toArray, List.getElem?_cons_zero, List.getElem?_cons_succ, Option.some.injEq] at ho; subst ho; rfl
    | 7, _, ho => simp only [List.getElem?_toArray, List.getElem?_cons_zero, List.getElem?_cons_succ, Option.some.injEq] at ho; subst ho; rfl
    | 8, _, ho => simp only [List.getElem?_toArray, List.getElem?_cons_zero, List.getElem?_cons_succ, Option.some.injEq] at ho; subst ho; rfl
    | 9, _, ho => simp only [List.getElem?_toArray, List.getElem?_cons_zero, List.getElem?_cons_succ, Option.some.injEq] at ho; subst ho; rfl
    | 10, _, ho => simp only [List.getElem?_toArray, List.getElem?_cons_zero, List.getElem?_cons_succ, Option.some.injEq] at ho; subst ho; rfl
    | 11, _, ho => simp only [List.getElem?_toArray, List.getElem?_cons_zero, List.getElem?_cons_succ, Option.some.injEq] at ho; subst ho; rfl
    | 12, _, ho => simp only [List.getElem?_toArray, List.getElem?_cons_zero, List.getElem?_cons_succ, Option.some.injEq] at ho; subst ho; rfl
    | 13, _, ho => simp only [List.getElem?_toArray, List.getElem?_cons_zero, List.getElem?_cons_succ, Option.some.injEq] at ho; subst ho; rfl
  · intro i o ho ed he
    have hi : i < 14 := (Array.getElem?_eq_some_iff.1 ho).1
    match i, hi, ho with
    | 0, _, ho => simp only [List.getElem?_toArray, List.getElem?_cons_zero, List.getElem?_cons_succ, Option.some.injEq] at ho; subst ho; revert ed; dsimp only; decide
    | 1, _, ho => simp only [List.getElem?_toArray, List.getElem?_cons_zero, List.getElem?_cons_succ, Option.some.injEq] at ho; subst ho; revert ed; dsimp only; decide
    | 2, _, ho => simp only [List.getElem?_toArray, List.getElem?_cons_zero, List.getElem?_cons_succ, Option.some.injEq] at ho; subst ho; revert ed; dsimp only; decide
    | 3, _, ho => simp only [List.getElem?_toArray, List.getElem?_cons_zero, List.getElem?_cons_succ, Option.some.injEq] at ho; subst ho; revert ed; dsimp only; decide
    | 4, _, ho => simp only [List.getElem?_toArray, List.getElem?_cons_zero, List.getElem?_cons_succ, Option.some.injEq] at ho; subst ho; revert ed; dsimp only; decide
    | 5, _, ho => simp only [List.getElem?_toArray, List.getElem?_cons_zero, List.getElem?_cons_succ, Option.some.injEq] at ho; subst ho; revert ed; dsimp only; decide
    | 6, _, ho => simp only [List.getElem?_toArray, List.getElem?_cons_zero, List.getElem?_cons_succ, Option.some.injEq] at ho; subst ho; revert ed; dsimp only; decide
    | 7, _, ho => simp only [List.getElem?_toArray, List.getElem?_cons_zero, List.getElem?_cons_succ, Option.some.injEq] at ho; subst ho; revert ed; dsimp only; decide
    | 8, _, ho => simp only [List.getElem?_toArray, List.getElem?_cons_zero, List.getElem?_cons_succ, Option.some.injEq] at ho; subst ho; revert ed; dsimp only; decide
    | 9, _, ho => simp only [List.getElem?_toArray, List.getElem?_cons_zero, List.getElem?_cons_succ, Option.some.injEq] at ho; subst ho; revert ed; dsimp only; decide
    | 10, _, ho => simp only [List.getElem?_toArray, List.getElem?_cons_zero, List.getElem?_cons_succ, Option.some.injEq] at ho; subst ho; revert ed; dsimp only; decide
    | 11, _, ho => simp only [List.getElem?_toArray, List.getElem?_cons_zero, List.getElem?_cons_succ, Option.some.injEq] at ho; subst ho; revert ed; dsimp only; decide
    | 12, _, ho => simp only [List.getElem?_toArray, List.getElem?_cons_zero, List.getElem?_cons_succ, Option.some.injEq] at ho; subst ho; revert ed; dsimp only; decide
    | 13, _, ho => simp only [List.getElem?_toArray, List.getElem?_cons_zero, List.getElem?_cons_succ, Option.some.injEq] at ho; subst ho; revert ed; dsimp only; decide
  · rintro l a w ⟨b0, b1, b2, b3, b4, b5, b6, b7, b8, b9, b10, b11, b12, b13, x5, x8, x9, x10, x11, x12, x13, x14, x15, x16, x17, x18, x19, rfl, rfl, hI⟩ i o ho hl hd K hK
    have hsz1 : B + 1 ≤ w.heap.size := by have := hI.bel.size; omega
    have hi : i < 14 := (Array.getElem?_eq_some_iff.1 ho).1
    match i, hi, ho with
    | 0, _, ho =>
      simp only [List.getElem?_toArray, List.getElem?_cons_zero, List.getElem?_cons_succ, Option.some.injEq] at ho; subst ho
      have hb : b0 = false := hl
      refine wp_of_run (v := .int .i64 (n : Int)) rfl (hK _ _ ⟨true, b1, b2, b3, b4, b5, b6, b7, b8, b9, b10, b11, b12, b13, x5, .int .i64 (n : Int), x9, x10, x11, x12, x13, x14, x15, x16, x17, x18, x19, rfl, rfl, ⟨hI.bel, fun _ => rfl, hI.h1, hI.h2, hI.h3, hI.h4, hI.h5, hI.h6, hI.h7, hI.h8, hI.h9, hI.h10, hI.h11, hI.h12, hI.h13, hI.h13b⟩⟩)
    | 2, _, ho =>
      simp only [List.getElem?_toArray, List.getElem?_cons_zero, List.getElem?_cons_succ, Option.some.injEq] at ho; subst ho
      have hb : b2 = false := hl
      refine wp_of_run (v := .int .i64 (n : Int)) rfl (hK _ _ ⟨b0, b1, true, b3, b4, b5, b6, b7, b8, b9, b10, b11, b12, b13, x5, x8, x9, .int .i64 (n : Int), x11, x12, x13, x14, x15, x16, x17, x18, x19, rfl, rfl, ⟨hI.bel, hI.h0, hI.h1, fun _ => rfl, hI.h3, hI.h4, hI.h5, hI.h6, hI.h7, hI.h8, hI.h9, hI.h10, hI.h11, hI.h12, hI.h13, hI.h13b⟩⟩)
    | 4, _, ho =>
      simp only [List.getElem?_toArray, List.getElem?_cons_zero, List.getElem?_cons_succ, Option.some.injEq] at ho; subst ho
      have hb : b4 = false := hl
      refine wp_of_run (v := .int .i64 (n : Int)) rfl (hK _ _ ⟨b0, b1, b2, b3, true, b5, b6, b7, b8, b9, b10, b11, b12, b13, x5, x8, x9, x10, x11, .int .i64 (n : Int), x13, x14, x15, x16, x17, x18, x19, rfl, rfl, ⟨hI.bel, hI.h0, hI.h1, hI.h2, hI.h3, fun _ => rfl, hI.h5, hI.h6, hI.h7, hI.h8, hI.h9, hI.h10, hI.h11, hI.h12, hI.h13, hI.h13b⟩⟩)
    | 6, _, ho =>
      simp only [List.getElem?_toArray, List.getElem?_cons_zero, List.getElem?_cons_succ, Option.some.injEq] at ho; subst ho
      have hb : b6 = false := hl
      refine wp_of_run (v := .int .i64 (n : Int)) rfl (hK _ _ ⟨b0, b1, b2, b3, b4, b5, true, b7, b8, b9, b10, b11, b12, b13, x5, x8, x9, x10, x11, x12, x13, .int .i64 (n : Int), x15, x16, x17, x18, x19, rfl, rfl, ⟨hI.bel, hI.h0, hI.h1, hI.h2, hI.h3, hI.h4, hI.h5, fun _ => rfl, hI.h7, hI.h8, hI.h9, hI.h10, hI.h11, hI.h12, hI.h13, hI.h13b⟩⟩)
    | 8, _, ho =>
      simp only [List.getElem?_toArray, List.getElem?_cons_zero, List.getElem?_cons_succ, Option.some.injEq] at ho; subst ho
      have hb : b8 = false := hl
      refine wp_of_run (v := .int .i64 (n : Int)) rfl (hK _ _ ⟨b0, b1, b2, b3, b4, b5, b6, b7, true, b9, b10, b11, b12, b13, x5, x8, x9, x10, x11, x12, x13, x14, x15, .int .i64 (n : Int), x17, x18, x19, rfl, rfl, ⟨hI.bel, hI.h0, hI.h1, hI.h2, hI.h3, hI.h4, hI.h5, hI.h6, hI.h7, fun _ => rfl, hI.h9, hI.h10, hI.h11, hI.h12, hI.h13, hI.h13b⟩⟩)
    | 1, _, ho =>
      simp only [List.getElem?_toArray, List.getElem?_cons_zero, List.getElem?_cons_succ, Option.some.injEq] at ho; subst ho
      have hb : b1 = false := hl
      have hb13 : b13 = false := by
        cases b13 with
        | false => rfl
        | true => have := (hI.h11 (hI.h13 rfl)).2.1; rw [hb] at this; cases this
      subst hb13
      have d0 : b0 = true := hd ⟨0, .data⟩ (by simp) rfl
      obtain rfl := hI.h0 d0
      refine wp_make rfl rfl rfl (hmk w) (hK _ _ ⟨b0, true, b2, b3, b4, b5, b6, b7, b8, b9, b10, b11, b12, false, x5, .int .i64 (n : Int), .slice (some ⟨w.heap.size, 0, none⟩) n n, x10, x11, x12, x13, x14, x15, x16, x17, x18, x19, rfl, rfl, ⟨hI.bel.alloc hsz1 _, hI.h0, fun _ => ⟨w.heap.size, rfl, by omega, Row.made _ _ _ _⟩, hI.h2, fun h => (hI.h3 h).alloc _, hI.h4, fun h => (hI.h5 h).alloc _, hI.h6, fun h => (hI.h7 h).alloc _, hI.h8, hI.h9, fun h => (hI.h10 h).alloc _, (fun h => by have := (hI.h11 h).2.1; rw [hb] at this; cases this), (fun h => by obtain ⟨T, q1, q2, q3⟩ := hI.h12 h; exact ⟨T, q1, q2, q3.alloc _⟩), (fun h => by cases h), (fun h => by cases h)⟩⟩)
    | 3, _, ho =>
      simp only [List.getElem?_toArray, List.getElem?_cons_zero, List.getElem?_cons_succ, Option.some.injEq] at ho; subst ho
      have hb : b3 = false := hl
      have hb13 : b13 = false := by
        cases b13 with
        | false => rfl
        | true => have := (hI.h11 (hI.h13 rfl)).2.2.1; rw [hb] at this; cases this
      subst hb13
      have d0 : b2 = true := hd ⟨2, .data⟩ (by simp) rfl
      obtain rfl := hI.h2 d0
      refine wp_make rfl rfl rfl (hmk w) (hK _ _ ⟨b0, b1, b2, true, b4, b5, b6, b7, b8, b9, b10, b11, b12, false, x5, x8, x9, .int .i64 (n : Int), .slice (some ⟨w.heap.size, 0, none⟩) n n, x12, x13, x14, x15, x16, x17, x18, x19, rfl, rfl, ⟨hI.bel.alloc hsz1 _, hI.h0, fun h => (hI.h1 h).alloc _, hI.h2, fun _ => ⟨w.heap.size, rfl, by omega, Row.made _ _ _ _⟩, hI.h4, fun h => (hI.h5 h).alloc _, hI.h6, fun h => (hI.h7 h).alloc _, hI.h8, hI.h9, fun h => (hI.h10 h).alloc _, (fun h => by have := (hI.h11 h).2.2.1; rw [hb] at this; cases this), (fun h => by obtain ⟨T, q1, q2, q3⟩ := hI.h12 h; exact ⟨T, q1, q2, q3.alloc _⟩), (fun h => by cases h), (fun h => by cases h)⟩⟩)
    | 5, _, ho =>
      simp only [List.getElem?_toArray, List.getElem?_cons_zero, List.getElem?_cons_succ, Option.some.injEq] at ho; subst ho
      have hb : b5 = false := hl
      have hb13 : b13 = false := by
        cases b13 with
        | false => rfl
        | true => have := (hI.h11 (hI.h13 rfl)).2.2.2.1; rw [hb] at this; cases this
      subst hb13
      have d0 : b4 = true := hd ⟨4, .data⟩ (by simp) rfl
      obtain rfl := hI.h4 d0
      refine wp_make rfl rfl rfl (hmk w) (hK _ _ ⟨b0, b1, b2, b3, b4, true, b6, b7, b8, b9, b10, b11, b12, false, x5, x8, x9, x10, x11, .int .i64 (n : Int), .slice (some ⟨w.heap.size, 0, none⟩) n n, x14, x15, x16, x17, x18, x19, rfl, rfl, ⟨hI.bel.alloc hsz1 _, hI.h0, fun h => (hI.h1 h).alloc _, hI.h2, fun h => (hI.h3 h).alloc _, hI.h4, fun _ => ⟨w.heap.size, rfl, by omega, Row.made _ _ _ _⟩, hI.h6, fun h => (hI.h7 h).alloc _, hI.h8, hI.h9, fun h => (hI.h10 h).alloc _, (fun h => by have := (hI.h11 h).2.2.2.1; rw [hb] at this; cases this), (fun h => by obtain ⟨T, q1, q2, q3⟩ := hI.h12 h; exact ⟨T, q1, q2, q3.alloc _⟩), (fun h => by cases h), (fun h => by cases h)⟩⟩)
    | 7, _, ho =>
      simp only [List.getElem?_toArray, List.getElem?_cons_zero, List.getElem?_cons_succ, Option.some.injEq] at ho; subst ho
      have hb : b7 = false := hl
      have hb13 : b13 = false := by
        cases b13 with
        | false => rfl
        | true => have := (hI.h11 (hI.h13 rfl)).2.2.2.2.1; rw [hb] at this; cases this
      subst hb13
      have d0 : b6 = true := hd ⟨6, .data⟩ (by simp) rfl
      obtain rfl := hI.h6 d0
      refine wp_make rfl rfl rfl (hmk w) (hK _ _ ⟨b0, b1, b2, b3, b4, b5, b6, true, b8, b9, b10, b11, b12, false, x5, x8, x9, x10, x11, x12, x13, .int .i64 (n : Int), .slice (some ⟨w.heap.size, 0, none⟩) n n, x16, x17, x18, x19, rfl, rfl, ⟨hI.bel.alloc hsz1 _, hI.h0, fun h => (hI.h1 h).alloc _, hI.h2, fun h => (hI.h3 h).alloc _, hI.h4, fun h => (hI.h5 h).alloc _, hI.h6, fun _ => ⟨w.heap.size, rfl, by omega, Row.made _ _ _ _⟩, hI.h8, hI.h9, fun h => (hI.h10 h).alloc _, (fun h => by have := (hI.h11 h).2.2.2.2.1; rw [hb] at this; cases this), (fun h => by obtain ⟨T, q1, q2, q3⟩ := hI.h12 h; exact ⟨T, q1, q2, q3.alloc _⟩), (fun h => by cases h), (fun h => by cases h)⟩⟩)
    | 9, _, ho =>
      simp only [List.getElem?_toArray, List.getElem?_cons_zero, List.getElem?_cons_succ, Option.some.injEq] at ho; subst ho
      have hb : b9 = false := hl
      have d0 : b8 = true := hd ⟨8, .data⟩ (by simp) rfl
      obtain rfl := hI.h8 d0
      refine wp_binOp rfl rfl rfl (hsub w) (hK _ _ ⟨b0, b1, b2, b3, b4, b5, b6, b7, b8, true, b10, b11, b12, b13, x5, x8, x9, x10, x11, x12, x13, x14, x15, .int .i64 (n : Int), .int .i64 ((n : Int) - 1), x18, x19, rfl, rfl, ⟨hI.bel, hI.h0, hI.h1, hI.h2, hI.h3, hI.h4, hI.h5, hI.h6, hI.h7, hI.h8, fun _ => rfl, hI.h10, hI.h11, hI.h12, hI.h13, hI.h13b⟩⟩)
    | 10, _, ho =>
      simp only [List.getElem?_toArray, List.getElem?_cons_zero, List.getElem?_cons_succ, Option.some.injEq] at ho; subst ho
      have hb : b10 = false := hl
      have hb13 : b13 = false := by
        cases b13 with
        | false => rfl
        | true => have := (hI.h11 (hI.h13 rfl)).2.2.2.2.2; rw [hb] at this; cases this
      subst hb13
      have d0 : b9 = true := hd ⟨9, .data⟩ (by simp) rfl
      obtain rfl := hI.h9 d0
      refine wp_make rfl rfl rfl (hmk0 w) (hK _ _ ⟨b0, b1, b2, b3, b4, b5, b6, b7, b8, b9, true, b11, b12, false, x5, x8, x9, x10, x11, x12, x13, x14, x15, x16, .int .i64 ((n : Int) - 1), .slice (some ⟨w.heap.size, 0, none⟩) 0 (n - 1), x19, rfl, rfl, ⟨hI.bel.alloc hsz1 _, hI.h0, fun h => (hI.h1 h).alloc _, hI.h2, fun h => (hI.h3 h).alloc _, hI.h4, fun h => (hI.h5 h).alloc _, hI.h6, fun h => (hI.h7 h).alloc _, hI.h8, hI.h9, fun _ => ⟨w.heap.size, rfl, by omega, Row.made _ _ _ _⟩, (fun h => by have := (hI.h11 h).2.2.2.2.2; rw [hb] at this; cases this), (fun h => by obtain ⟨T, q1, q2, q3⟩ := hI.h12 h; exact ⟨T, q1, q2, q3.alloc _⟩), (fun h => by cases h), (fun h => by cases h)⟩⟩)
    | 11, _, ho =>
      simp only [List.getElem?_toArray, List.getElem?_cons_zero, List.getElem?_cons_succ, Option.some.injEq] at ho; subst ho
      have hb : b11 = false := hl
      have e1 : b1 = true := hd ⟨1, .data⟩ (by simp) rfl
      have e3 : b3 = true := hd ⟨3, .data⟩ (by simp) rfl
      have e5 : b5 = true := hd ⟨5, .data⟩ (by simp) rfl
      have e7 : b7 = true := hd ⟨7, .data⟩ (by simp) rfl
      have e10 : b10 = true := hd ⟨10, .data⟩ (by simp) rfl
      obtain ⟨g0, rfl, _⟩ := hI.h1 e1
      obtain ⟨g1, rfl, _⟩ := hI.h3 e3
      obtain ⟨g2, rfl, _⟩ := hI.h5 e5
      obtain ⟨g3, rfl, _⟩ := hI.h7 e7
      obtain ⟨g4, rfl, _⟩ := hI.h10 e10
      refine wp_built rfl (by simp [Act.eval]) (hbu g0 g1 g2 g3 g4 w) (hK _ _ ⟨b0, b1, b2, b3, b4, b5, b6, b7, b8, b9, b10, true, b12, b13, x5, x8, .slice (some ⟨g0, 0, none⟩) n n, x10, .slice (some ⟨g1, 0, none⟩) n n, x12, .slice (some ⟨g2, 0, none⟩) n n, x14, .slice (some ⟨g3, 0, none⟩) n n, x16, x17, .slice (some ⟨g4, 0, none⟩) 0 (n - 1), .agg #[.slice (some ⟨g0, 0, none⟩) n n, .slice (some ⟨g1, 0, none⟩) n n, .slice (some ⟨g2, 0, none⟩) n n, .slice (some ⟨g3, 0, none⟩) n n, .slice (some ⟨g4, 0, none⟩) 0 (n - 1)], rfl, rfl, ⟨hI.bel, hI.h0, hI.h1, hI.h2, hI.h3, hI.h4, hI.h5, hI.h6, hI.h7, hI.h8, hI.h9, hI.h10, fun _ => ⟨rfl, e1, e3, e5, e7, e10⟩, hI.h12, fun _ => rfl, hI.h13b⟩⟩)
    | 12, _, ho =>
      simp only [List.getElem?_toArray, List.getElem?_cons_zero, List.getElem?_cons_succ, Option.some.injEq] at ho; subst ho
      have hb : b12 = false := hl
      have hb13 : b13 = false := by
        cases b13 with
        | false => rfl
        | true => have := hI.h13b rfl; rw [hb] at this; cases this
      subst hb13
      refine wp_alloc rfl (hal w) (hK _ _ ⟨b0, b1, b2, b3, b4, b5, b6, b7, b8, b9, b10, b11, true, false, .pointer (some ⟨w.heap.size, 0, none⟩), x8, x9, x10, x11, x12, x13, x14, x15, x16, x17, x18, x19, rfl, rfl, ⟨hI.bel.alloc hsz1 _, hI.h0, fun h => (hI.h1 h).alloc _, hI.h2, fun h => (hI.h3 h).alloc _, hI.h4, fun h => (hI.h5 h).alloc _, hI.h6, fun h => (hI.h7 h).alloc _, hI.h8, hI.h9, fun h => (hI.h10 h).alloc _, hI.h11, fun _ => ⟨w.heap.size, rfl, by omega, Tab.made _ _ _⟩, (fun h => by cases h), (fun h => by cases h)⟩⟩)
    | 13, _, ho =>
      simp only [List.getElem?_toArray, List.getElem?_cons_zero, List.getElem?_cons_succ, Option.some.injEq] at ho; subst ho
      have hb : b13 = false := hl
      subst hb
      have e11 : b11 = true := hd ⟨11, .data⟩ (by simp) rfl
      have e12 : b12 = true := hd ⟨12, .data⟩ (by simp) rfl
      obtain ⟨rfl, e1, e3, e5, e7, e10⟩ := hI.h11 e11
      obtain ⟨T, rfl, q2, q3⟩ := hI.h12 e12
      obtain ⟨g0, rfl, _⟩ := hI.h1 e1
      obtain ⟨g1, rfl, _⟩ := hI.h3 e3
      obtain ⟨g2, rfl, _⟩ := hI.h5 e5
      obtain ⟨g3, rfl, _⟩ := hI.h7 e7
      obtain ⟨g4, rfl, _⟩ := hI.h10 e10
      refine wp_store_row tt _ _ rfl T _ rfl rfl tt _ q3 hsz rfl (by simp [Value.oneCell']) (hK _ _ ⟨b0, b1, b2, b3, b4, b5, b6, b7, b8, b9, b10, b11, b12, true, .pointer (some ⟨T, 0, none⟩), x8, .slice (some ⟨g0, 0, none⟩) n n, x10, .slice (some ⟨g1, 0, none⟩) n n, x12, .slice (some ⟨g2, 0, none⟩) n n, x14, .slice (some ⟨g3, 0, none⟩) n n, x16, x17, .slice (some ⟨g4, 0, none⟩) 0 (n - 1), .agg #[.slice (some ⟨g0, 0, none⟩) n n, .slice (some ⟨g1, 0, none⟩) n n, .slice (some ⟨g2, 0, none⟩) n n, .slice (some ⟨g3, 0, none⟩) n n, .slice (some ⟨g4, 0, none⟩) 0 (n - 1)], rfl, rfl, ⟨below_setRow hI.bel (by omega) _, hI.h0, fun h => (hI.h1 h).setRow q3 hte _, hI.h2, fun h => (hI.h3 h).setRow q3 hte _, hI.h4, fun h => (hI.h5 h).setRow q3 hte _, hI.h6, fun h => (hI.h7 h).setRow q3 hte _, hI.h8, hI.h9, fun h => (hI.h10 h).setRow q3 hte _, hI.h11, fun _ => ⟨T, rfl, q2, q3.setRow _⟩, fun _ => e11, fun _ => e12⟩⟩)
  · rintro l a w ⟨b0, b1, b2, b3, b4, b5, b6, b7, b8, b9, b10, b11, b12, b13, x5, x8, x9, x10, x11, x12, x13, x14, x15, x16, x17, x18, x19, rfl, rfl, hI⟩ hall
    have c0 : b0 = true := hall 0 (by show _ < 14; decide)
    have c1 : b1 = true := hall 1 (by show _ < 14; decide)
    have c2 : b2 = true := hall 2 (by show _ < 14; decide)
    have c3 : b3 = true := hall 3 (by show _ < 14; decide)
    have c4 : b4 = true := hall 4 (by show _ < 14; decide)
    have c5 : b5 = true := hall 5 (by show _ < 14; decide)
    have c6 : b6 = true := hall 6 (by show _ < 14; decide)
    have c7 : b7 = true := hall 7 (by show _ < 14; decide)
    have c8 : b8 = true := hall 8 (by show _ < 14; decide)
    have c9 : b9 = true := hall 9 (by show _ < 14; decide)
    have c10 : b10 = true := hall 10 (by show _ < 14; decide)
    have c11 : b11 = true := hall 11 (by show _ < 14; decide)
    have c12 : b12 = true := hall 12 (by show _ < 14; decide)
    have c13 : b13 = true := hall 13 (by show _ < 14; decide)
    subst c0 c1 c2 c3 c4 c5 c6 c7 c8 c9 c10 c11 c12 c13
    obtain ⟨x19e, _⟩ := hI.h11 rfl
    obtain ⟨g0, r9, q0, r0⟩ := hI.h1 rfl
    obtain ⟨g1, r11, q1, r1⟩ := hI.h3 rfl
    obtain ⟨g2, r13, q2, r2⟩ := hI.h5 rfl
    obtain ⟨g3, r15, q3, r3⟩ := hI.h7 rfl
    obtain ⟨g4, r18, q4, r4⟩ := hI.h10 rfl
    obtain ⟨T, xT, qT, tT⟩ := hI.h12 rfl
    have y8 := hI.h0 rfl
    have y10 := hI.h2 rfl
    have y12 := hI.h4 rfl
    have y14 := hI.h6 rfl
    have y16 := hI.h8 rfl
    have y17 := hI.h9 rfl
    have hbel := hI.bel
    clear hI
    subst x19e r9 r11 r13 r15 r18 xT y8 y10 y12 y14 y16 y17
    exact hQ T g0 g1 g2 g3 g4 w hbel qT q0 q1 q2 q3 q4 r0 r1 r2 r3 r4 tT
  · refine ⟨Below.refl _ _, ?_, ?_, ?_, ?_, ?_, ?_, ?_, ?_, ?_, ?_, ?_, ?_, ?_, ?_, ?_⟩
    all_goals (intro h; cases h)
end Go.Proofs.Ybulkadxm
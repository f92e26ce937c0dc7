/- newTable's own memory: the invariant of its two loops, the append that fits. No program in sight. -/
import Derived.Test.YbulkadxmMix
import Derived.Test.YbulkadxmRegion
namespace Go.Proofs.Ybulkadxm
open Go.ChangeShapes Go.WideShapes Go.ChangeAt Go.RowKit
set_option linter.unusedVariables false

/-- What holds of the call's own memory while newTable fills it: the result's block, the table's block (of 'removed' r elements), the five rows. -/
structure NT (B n : Nat) (e tt : TypeId) (w : World) (T g0 g1 g2 g3 g4 r : Nat) (wr : World) : Prop where
  bel : Below B w wr
  res : Tab wr B tt #[.slice none 0 0, .slice none 0 0, .slice none 0 0, .slice none 0 0, .slice none 0 0]
  hT : B < T
  h0 : B < g0
  h1 : B < g1
  h2 : B < g2
  h3 : B < g3
  h4 : B < g4
  r0 : Row wr g0 e n
  r1 : Row wr g1 e n
  r2 : Row wr g2 e n
  r3 : Row wr g3 e n
  r4 : Row wr g4 e (n - 1)
  tab : Tab wr T tt #[.slice (some ⟨g0, 0, none⟩) n n, .slice (some ⟨g1, 0, none⟩) n n, .slice (some ⟨g2, 0, none⟩) n n, .slice (some ⟨g3, 0, none⟩) n n, .slice (some ⟨g4, 0, none⟩) r (n - 1)]

/-- An append whose run is known. -/
theorem wpList_append_known {P : Program} (w : World) {ops : Array Oper} {rest : List Oper} {o : Oper} {a : Act} {Q : Exit → Act → World → Prop}
    (hg : o.guard = none) (s x : Operand) (t : TypeId) (hop : o.op = Op.call { callee := Callee.builtin Builtin.append, args := #[s, x], argTypes := #[t, t] })
    (vs vx v : Value) (hs : a.eval s = vs) (hx : a.eval x = vx) (w' : World) (hrun : (Builtin.append_ #[t, t] o.type #[vs, vx]).run P w = .ok v w')
    (hK : wpList P ops Q rest (a.put o.dst v) w') : wpList P ops Q (o :: rest) a w := by
  refine wpList_plain hg fun K hK' => ?_
  unfold Oper.wp
  simp [execOp, hop, resolve, invoke, builtin, hs, hx, hrun, Result.andThen]
  exact hK' _ _ hK
/-- One element appended within the capacity: the run. -/
theorem run_append_one {P : Program} (w : World) (t ty e : TypeId) (z : Value) (bytes : Nat) (ht : P.underlying t = some (.slice e)) (hinfo : (P.info? e).map (fun i => (i.zero, i.size, i.bytes)) = some (some z, 1, bytes))
    (g r c : Nat) (hrc : r + 1 ≤ c) (hr : Row w g e c) (ad : Addr) (u : Value) (hu : w.cell? ad = some u) (h1 : u.oneCell' = true) :
    (Builtin.append_ #[t, t] ty #[.slice (some ⟨g, 0, none⟩) r c, .slice (some ad) 1 1]).run P w = .ok (.slice (some ⟨g, 0, none⟩) (r + 1) c) (w.setCell ⟨g, r, none⟩ u) := by
  obtain ⟨i, hi, hz, hs, hb⟩ := info_parts hinfo
  have h := run_append_room_cells (P := P) w t ty e i ht hi g 0 r c ad 1 1 [u] (by simp [hs]) (by
      intro j v hj
      match j, hj with
      | 0, hj => simp at hj; subst hj; simpa [Addr.add] using hu) (by simpa using h1) hrc
    (by
      intro j hj
      obtain ⟨v, hv⟩ := hr.cell r (by omega)
      simp at hj
      subst hj
      simp [hs, hv])
    (by intro j hj; exact hr.frozen _)
  simpa [hs, World.setCells] using h
theorem NT.start {n : Nat} {e tt : TypeId} {w w2 : World} {T g0 g1 g2 g3 g4 : Nat} (hbel : Below (w.heap.size + 1) (w.alloc (.cells #[.slice none 0 0, .slice none 0 0, .slice none 0 0, .slice none 0 0, .slice none 0 0] tt)).drew w2)
    (hT : w.heap.size < T) (h0 : w.heap.size < g0) (h1 : w.heap.size < g1) (h2 : w.heap.size < g2) (h3 : w.heap.size < g3) (h4 : w.heap.size < g4) (r0 : Row w2 g0 e n) (r1 : Row w2 g1 e n) (r2 : Row w2 g2 e n) (r3 : Row w2 g3 e n) (r4 : Row w2 g4 e (n - 1))
    (tab : Tab w2 T tt #[.slice (some ⟨g0, 0, none⟩) n n, .slice (some ⟨g1, 0, none⟩) n n, .slice (some ⟨g2, 0, none⟩) n n, .slice (some ⟨g3, 0, none⟩) n n, .slice (some ⟨g4, 0, none⟩) 0 (n - 1)]) : NT w.heap.size n e tt w T g0 g1 g2 g3 g4 0 w2 :=
  ⟨((Below.refl _ _).alloc (Nat.le_refl _) _).drew.trans (hbel.mono (Nat.le_succ _)), (hbel.block _ (Nat.lt_succ_self _)).trans (Tab.made w _ tt), hT, h0, h1, h2, h3, h4, r0, r1, r2, r3, r4, tab⟩
theorem NT.row {B n : Nat} {e tt : TypeId} {w : World} {T g0 g1 g2 g3 g4 r : Nat} {wr : World} (h : NT B n e tt w T g0 g1 g2 g3 g4 r wr) (hte : tt ≠ e) {g m : Nat} (hr : Row wr g e m) (hg : B < g) (j : Nat) (u : Value) : NT B n e tt w T g0 g1 g2 g3 g4 r (wr.setCell ⟨g, j, none⟩ u) :=
  ⟨h.bel.setCell (Nat.le_of_lt hg) u, h.res.setOther (by omega) j u, h.hT, h.h0, h.h1, h.h2, h.h3, h.h4, h.r0.setCell _ _ _, h.r1.setCell _ _ _, h.r2.setCell _ _ _, h.r3.setCell _ _ _, h.r4.setCell _ _ _, h.tab.setOther (h.tab.ne hr hte) j u⟩
theorem NT.alloc {B n : Nat} {e tt : TypeId} {w : World} {T g0 g1 g2 g3 g4 r : Nat} {wr : World} (h : NT B n e tt w T g0 g1 g2 g3 g4 r wr) (o : Obj) : NT B n e tt w T g0 g1 g2 g3 g4 r (wr.alloc o) :=
  ⟨h.bel.alloc (Nat.le_of_lt h.res.lt) o, h.res.alloc o, h.hT, h.h0, h.h1, h.h2, h.h3, h.h4, h.r0.alloc _, h.r1.alloc _, h.r2.alloc _, h.r3.alloc _, h.r4.alloc _, h.tab.alloc _⟩
theorem NT.len {B n : Nat} {e tt : TypeId} {w : World} {T g0 g1 g2 g3 g4 r : Nat} {wr : World} (h : NT B n e tt w T g0 g1 g2 g3 g4 r wr) (r' : Nat) : NT B n e tt w T g0 g1 g2 g3 g4 r' (wr.setCell ⟨T, 4, none⟩ (.slice (some ⟨g4, 0, none⟩) r' (n - 1))) :=
  ⟨h.bel.setCell (Nat.le_of_lt h.hT) _, h.res.setOther (by have := h.hT; omega) _ _, h.hT, h.h0, h.h1, h.h2, h.h3, h.h4, h.r0.setCell _ _ _, h.r1.setCell _ _ _, h.r2.setCell _ _ _, h.r3.setCell _ _ _, h.r4.setCell _ _ _, h.tab.setSelf _ _⟩


/-- 'removed = append(removed, u)' in newTable: it fits; the world behind it is a letter. -/
theorem wpList_append_nt {P : Program} (w : World) {ops : Array Oper} {rest : List Oper} {o : Oper} {a : Act} {Q : Exit → Act → World → Prop}
    (hg : o.guard = none) (s x : Operand) (t : TypeId) (hop : o.op = Op.call { callee := Callee.builtin Builtin.append, args := #[s, x], argTypes := #[t, t] })
    (e : TypeId) (z : Value) (bytes : Nat) (ht : P.underlying t = some (.slice e)) (hinfo : (P.info? e).map (fun i => (i.zero, i.size, i.bytes)) = some (some z, 1, bytes))
    (tt : TypeId) (hte : tt ≠ e) {B n : Nat} {w0 : World} {T g0 g1 g2 g3 g4 r : Nat} (hN : NT B n e tt w0 T g0 g1 g2 g3 g4 r w) (hr : r + 1 ≤ n - 1)
    (ad : Addr) (u : Value) (hu : w.cell? ad = some u) (h1 : u.oneCell' = true) (hs : a.eval s = .slice (some ⟨g4, 0, none⟩) r (n - 1)) (hx : a.eval x = .slice (some ad) 1 1)
    (hK : ∀ w4, NT B n e tt w0 T g0 g1 g2 g3 g4 r w4 → wpList P ops Q rest (a.put o.dst (.slice (some ⟨g4, 0, none⟩) (r + 1) (n - 1))) w4) : wpList P ops Q (o :: rest) a w :=
  wpList_append_known w hg s x t hop _ _ _ hs hx _ (run_append_one w t _ e z bytes ht hinfo g4 r (n - 1) hr hN.r4 ad u hu h1) (hK _ (hN.row hte hN.r4 hN.h4 r u))
end Go.Proofs.Ybulkadxm

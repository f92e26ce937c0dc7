/- Worlds: a row of cells that the call itself made (its block, element type and size known; of its contents nothing), a block known whole. No program in sight. -/
import Derived.WalkKit
import Derived.Deep.OwnRows
import Derived.OneCell
namespace Go.Proofs.Ybulkadxm
open Go Go.RowKit

theorem heap_set_self {w : World} {b j : Nat} {c : Array Value} {t : TypeId} {f : Nat × Nat} (h : w.heap[b]? = some (.cells c t f)) (v : Value) :
    (w.setCell ⟨b, j, none⟩ v).heap[b]? = some (.cells (c.setIfInBounds j v) t f) := by
  have hlt := lt_of_block h
  have h' : w.heap[b] = .cells c t f := by simpa [Array.getElem?_eq_getElem hlt] using h
  show (w.heap.modify b _)[b]? = _
  rw [Array.getElem?_eq_getElem (by simpa using hlt), Array.getElem_modify_self, h']
  rfl

/-- A row of m cells, none of them frozen. -/
def Row (w : World) (g : Nat) (e : TypeId) (m : Nat) : Prop := ∃ cur, w.heap[g]? = some (.cells cur e (0, 0)) ∧ cur.size = m

theorem Row.lt {w : World} {g : Nat} {e : TypeId} {m : Nat} (h : Row w g e m) : g < w.heap.size := by
  obtain ⟨c, h, _⟩ := h; exact lt_of_block h
theorem Row.alloc {w : World} {g : Nat} {e : TypeId} {m : Nat} (h : Row w g e m) (o : Obj) : Row (w.alloc o) g e m := by
  have hl := h.lt
  obtain ⟨c, h, hs⟩ := h
  exact ⟨c, by rw [Below.heap_alloc _ _ _ hl]; exact h, hs⟩
theorem Row.drew {w : World} {g : Nat} {e : TypeId} {m : Nat} (h : Row w g e m) : Row w.drew g e m := h
theorem Row.setCell {w : World} {g : Nat} {e : TypeId} {m : Nat} (h : Row w g e m) (b j : Nat) (v : Value) : Row (w.setCell ⟨b, j, none⟩ v) g e m := by
  obtain ⟨c, h, hs⟩ := h
  by_cases hb : g = b
  · subst hb
    exact ⟨_, heap_set_self h v, by simpa using hs⟩
  · exact ⟨c, by rw [Below.heap_setCell _ _ _ _ (by simpa using hb)]; exact h, hs⟩
theorem Row.cell {w : World} {g : Nat} {e : TypeId} {m : Nat} (h : Row w g e m) (j : Nat) (hj : j < m) : ∃ v, w.cell? ⟨g, j, none⟩ = some v := by
  obtain ⟨c, h, hs⟩ := h
  exact ⟨c[j], by simp [World.cell?, h, hs, hj]⟩
theorem Row.frozen {w : World} {g : Nat} {e : TypeId} {m : Nat} (h : Row w g e m) (j : Nat) : w.frozen? ⟨g, j, none⟩ = false := by
  obtain ⟨c, h, hs⟩ := h
  simp [World.frozen?, h]
theorem Row.made (w : World) (z : Value) (m : Nat) (e : TypeId) : Row (w.alloc (.cells (madeCells #[z] m) e)) w.heap.size e m :=
  ⟨madeCells #[z] m, by show (w.heap.push _)[_]? = _; simp, size_madeCells _ _⟩

/-- A block known whole, nothing of it frozen. -/
def Tab (w : World) (T : Nat) (s : TypeId) (c : Array Value) : Prop := w.heap[T]? = some (.cells c s (0, 0))
theorem Tab.lt {w : World} {T : Nat} {s : TypeId} {c : Array Value} (h : Tab w T s c) : T < w.heap.size := lt_of_block h
theorem Tab.alloc {w : World} {T : Nat} {s : TypeId} {c : Array Value} (h : Tab w T s c) (o : Obj) : Tab (w.alloc o) T s c := by
  unfold Tab; rw [Below.heap_alloc _ _ _ h.lt]; exact h
theorem Tab.drew {w : World} {T : Nat} {s : TypeId} {c : Array Value} (h : Tab w T s c) : Tab w.drew T s c := h
theorem Tab.ne {w : World} {T g m : Nat} {s e : TypeId} {c : Array Value} (h : Tab w T s c) (hr : Row w g e m) (he : s ≠ e) : T ≠ g := by
  rintro rfl
  obtain ⟨c', h', _⟩ := hr
  unfold Tab at h
  rw [h] at h'
  simp at h'
  exact he h'.2
theorem Tab.setOther {w : World} {T : Nat} {s : TypeId} {c : Array Value} (h : Tab w T s c) {b : Nat} (hb : T ≠ b) (j : Nat) (v : Value) : Tab (w.setCell ⟨b, j, none⟩ v) T s c := by
  unfold Tab; rw [Below.heap_setCell _ _ _ _ (by simpa using hb)]; exact h
theorem Tab.setSelf {w : World} {T : Nat} {s : TypeId} {c : Array Value} (h : Tab w T s c) (j : Nat) (v : Value) : Tab (w.setCell ⟨T, j, none⟩ v) T s (c.setIfInBounds j v) := heap_set_self h v
theorem Tab.cell {w : World} {T : Nat} {s : TypeId} {c : Array Value} (h : Tab w T s c) (j : Nat) (v : Value) (hj : c[j]? = some v) : w.cell? ⟨T, j, none⟩ = some v := by
  simp [World.cell?, show w.heap[T]? = some (.cells c s (0, 0)) from h, hj]
theorem Tab.frozen {w : World} {T : Nat} {s : TypeId} {c : Array Value} (h : Tab w T s c) (j : Nat) : w.frozen? ⟨T, j, none⟩ = false := by
  simp [World.frozen?, show w.heap[T]? = some (.cells c s (0, 0)) from h]
theorem Tab.made (w : World) (c : Array Value) (s : TypeId) : Tab (w.alloc (.cells c s)) w.heap.size s c := by
  show (w.heap.push _)[_]? = _; simp

/-- A slice value over a row of the call's own, beyond block B. -/
def IsRow (B : Nat) (e : TypeId) (len cap : Nat) (x : Value) (w : World) : Prop := ∃ g, x = .slice (some ⟨g, 0, none⟩) len cap ∧ B < g ∧ Row w g e cap
theorem IsRow.alloc {B : Nat} {e : TypeId} {len cap : Nat} {x : Value} {w : World} (h : IsRow B e len cap x w) (o : Obj) : IsRow B e len cap x (w.alloc o) := by
  obtain ⟨g, h1, h2, h3⟩ := h; exact ⟨g, h1, h2, h3.alloc o⟩
theorem IsRow.drew {B : Nat} {e : TypeId} {len cap : Nat} {x : Value} {w : World} (h : IsRow B e len cap x w) : IsRow B e len cap x w.drew := h
theorem IsRow.setCell {B : Nat} {e : TypeId} {len cap : Nat} {x : Value} {w : World} (h : IsRow B e len cap x w) (b j : Nat) (v : Value) : IsRow B e len cap x (w.setCell ⟨b, j, none⟩ v) := by
  obtain ⟨g, h1, h2, h3⟩ := h; exact ⟨g, h1, h2, h3.setCell b j v⟩
end Go.Proofs.Ybulkadxm

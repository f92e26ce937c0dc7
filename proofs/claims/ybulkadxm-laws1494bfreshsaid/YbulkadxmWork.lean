/- The readers: capacity (17, 20), working (18, 19), Working (13), Capacity (15). They only read. -/
import Derived.Test.YbulkadxmMix
import Derived.Test.YbulkadxmTab
import Derived.Deep.QuietTactic
import Derived.BigQuiet
namespace Go.Proofs.Ybulkadxm
open Go.ChangeShapes Go.WideShapes Go.ChangeAt Go.RowKit
set_option linter.unusedVariables false

theorem cap32 (b o n c : Nat) (ao : Option Addr) (w : World) (h0 : w.cell? ⟨b, o, none⟩ = some (.slice ao n c)) :
    Calls Yba.prog 17 #[.pointer (some ⟨b, o, none⟩)] w fun e w' => e = .returned (.int .i64 n) ∧ w' = w := by
  go_enter Yba.func17, Yba.ntmps17
  go_wp2
  go_ret
  exact ⟨rfl, rfl⟩
theorem cap16 (b o n c : Nat) (ao : Option Addr) (w : World) (h0 : w.cell? ⟨b, o, none⟩ = some (.slice ao n c)) :
    Calls Yba.prog 20 #[.pointer (some ⟨b, o, none⟩)] w fun e w' => e = .returned (.int .i64 n) ∧ w' = w := by
  go_enter Yba.func20, Yba.ntmps20
  go_wp2
  go_ret
  exact ⟨rfl, rfl⟩
theorem work32 (b o n c r d : Nat) (ao bo : Option Addr) (hn : n ≤ 4096) (hr : r ≤ 4096) (w : World) (h0 : w.cell? ⟨b, o, none⟩ = some (.slice ao n c)) (h4 : w.cell? ⟨b, o + 4, none⟩ = some (.slice bo r d)) :
    Calls Yba.prog 18 #[.pointer (some ⟨b, o, none⟩)] w fun e w' => e = .returned (.int .i64 ((n : Int) - r)) ∧ ∃ q, w' = w.drewN q := by
  go_enter Yba.func18, Yba.ntmps18
  go_wp2
  go_quiet (fail)
  go_wp2
  go_ret
  exact ⟨rfl, _, rfl⟩
theorem work16 (b o n c r d : Nat) (ao bo : Option Addr) (hn : n ≤ 4096) (hr : r ≤ 4096) (w : World) (h0 : w.cell? ⟨b, o, none⟩ = some (.slice ao n c)) (h4 : w.cell? ⟨b, o + 4, none⟩ = some (.slice bo r d)) :
    Calls Yba.prog 19 #[.pointer (some ⟨b, o, none⟩)] w fun e w' => e = .returned (.int .i64 ((n : Int) - r)) ∧ ∃ q, w' = w.drewN q := by
  go_enter Yba.func19, Yba.ntmps19
  go_wp2
  go_quiet (fail)
  go_wp2
  go_ret
  exact ⟨rfl, _, rfl⟩

/-- An Anchor in memory, as far as the readers look: the lengths of narrow's and wide's 'sizeAt' and 'removed'. -/
structure Anc (w : World) (b nc nr wc wr : Nat) : Prop where
  c0 : ∃ ao c, w.cell? ⟨b, 0, none⟩ = some (.slice ao nc c)
  c4 : ∃ ao c, w.cell? ⟨b, 4, none⟩ = some (.slice ao nr c)
  c5 : ∃ ao c, w.cell? ⟨b, 5, none⟩ = some (.slice ao wc c)
  c9 : ∃ ao c, w.cell? ⟨b, 9, none⟩ = some (.slice ao wr c)

theorem Anc.made (w : World) (c : Array Value) (t : TypeId) {nc nr wc wr k0 k4 k5 k9 : Nat} {a0 a4 a5 a9 : Option Addr} (h0 : c[0]? = some (.slice a0 nc k0)) (h4 : c[4]? = some (.slice a4 nr k4)) (h5 : c[5]? = some (.slice a5 wc k5)) (h9 : c[9]? = some (.slice a9 wr k9)) :
    Anc (w.alloc (.cells c t)) w.heap.size nc nr wc wr :=
  ⟨⟨a0, k0, (Tab.made w c t).cell 0 _ h0⟩, ⟨a4, k4, (Tab.made w c t).cell 4 _ h4⟩, ⟨a5, k5, (Tab.made w c t).cell 5 _ h5⟩, ⟨a9, k9, (Tab.made w c t).cell 9 _ h9⟩⟩
theorem work_wide (b nc nr wc wr : Nat) (hw : 0 < wc) (h1 : wc ≤ 4096) (h2 : wr ≤ 4096) (w : World) (h : Anc w b nc nr wc wr) :
    Calls Yba.prog 13 #[.pointer (some ⟨b, 0, none⟩)] w fun e w' => e = .returned (.int .i64 ((wc : Int) - wr)) ∧ ∃ q, w' = w.drewN q := by
  obtain ⟨a5, c5, h5⟩ := h.c5
  obtain ⟨a9, c9, h9⟩ := h.c9
  clear h
  go_enter Yba.func13, Yba.ntmps13
  go_wp2_with (first | (go_at_call 17; refine (cap32 _ _ _ _ _ _ h5).mono ?_; rintro e w' ⟨rfl, rfl⟩) | (go_at_call 18; refine (work32 _ _ _ _ _ _ _ _ h1 h2 _ h5 h9).mono ?_; rintro e w' ⟨rfl, q, rfl⟩))
  go_ret
  exact ⟨rfl, _, rfl⟩
theorem work_narrow (b nc nr wr : Nat) (h1 : nc ≤ 4096) (h2 : nr ≤ 4096) (w : World) (h : Anc w b nc nr 0 wr) :
    Calls Yba.prog 13 #[.pointer (some ⟨b, 0, none⟩)] w fun e w' => e = .returned (.int .i64 ((nc : Int) - nr)) ∧ ∃ q, w' = w.drewN q := by
  obtain ⟨a5, c5, h5⟩ := h.c5
  obtain ⟨a0, c0, h0⟩ := h.c0
  obtain ⟨a4, c4, h4⟩ := h.c4
  clear h
  go_enter Yba.func13, Yba.ntmps13
  go_wp2_with (first | (go_at_call 17; refine (cap32 _ _ _ _ _ _ h5).mono ?_; rintro e w' ⟨rfl, rfl⟩) | (go_at_call 19; refine (work16 _ _ _ _ _ _ _ _ h1 h2 _ h0 h4).mono ?_; rintro e w' ⟨rfl, q, rfl⟩))
  go_ret
  exact ⟨rfl, _, rfl⟩
theorem capa_wide (b nc nr wc wr : Nat) (hw : 0 < wc) (w : World) (h : Anc w b nc nr wc wr) :
    Calls Yba.prog 15 #[.pointer (some ⟨b, 0, none⟩)] w fun e w' => e = .returned (.int .i64 wc) ∧ w' = w := by
  obtain ⟨a5, c5, h5⟩ := h.c5
  clear h
  go_enter Yba.func15, Yba.ntmps15
  go_wp2_with (go_at_call 17; refine (cap32 _ _ _ _ _ _ h5).mono ?_; rintro e w' ⟨rfl, rfl⟩)
  go_ret
  exact ⟨rfl, rfl⟩
theorem capa_narrow (b nc nr wr : Nat) (w : World) (h : Anc w b nc nr 0 wr) :
    Calls Yba.prog 15 #[.pointer (some ⟨b, 0, none⟩)] w fun e w' => e = .returned (.int .i64 nc) ∧ w' = w := by
  obtain ⟨a5, c5, h5⟩ := h.c5
  obtain ⟨a0, c0, h0⟩ := h.c0
  clear h
  go_enter Yba.func15, Yba.ntmps15
  go_wp2_with (first | (go_at_call 17; refine (cap32 _ _ _ _ _ _ h5).mono ?_; rintro e w' ⟨rfl, rfl⟩) | (go_at_call 20; refine (cap16 _ _ _ _ _ _ h0).mono ?_; rintro e w' ⟨rfl, rfl⟩))
  go_ret
  exact ⟨rfl, rfl⟩
end Go.Proofs.Ybulkadxm

/-
  No cell of these rows narrows 'for every input' (looked for: loops, veiled, ifaces, maps, wideKeys, modest, calm, conditions, laid).
  DERIVED. THE GIVEN ROWS OF THIS SEAT. 7 by the template 'for every input the law returns true; each argument reads behind the call as it read before'; 0 by the template 'total and deterministic' (their statements: YbulkaebuTotals.lean).
  GIVEN WITH THE SEED: the statements are not yours to turn. If you find one false, say at which input.
  Laid BY PROGRAM, IN A SANDBOX (cutbox-rows.mjs): the forced cells as the released guide's own fill.sh prints them over the translation 9e19217f1df13782… (all of the seat's roots in one cut). By AI agents, Wed Nov 11 2026. No macro, syntax, notation, axiom, sorry.
-/
import Derived.Test.YbulkaebuChecked
import GoSem.Claim
import GoSem.ClaimJoined
import GoSem.ClaimMapViews
import Derived.JoinedTies
import Derived.KernelRfl
namespace Go.Proofs.Ybulkaebu
/- THE CELL 'sum', in the pinned program and in every row, IS THE sha256 OF THE DUMP (.gsa) THAT YbulkaebuProg.lean LOADS. Nothing in Lean hashes anything: it is a label: what it is worth is what the hold of that sum in a sandbox is worth. -/
noncomputable def Yba.pinned : Pinned := { name := "ybulkaebu", sum := "9e19217f1df13782b80a2a979fc08af181644c552487c0e0f20b0ac823ce2f4a", checked := Yba.checked }
namespace Rows
def none {H : Type} : Left H := { results := [], args := [] }

/-- 'bouncewright.LawS1502AModel': WHATEVER THE INPUT: true; the input reads as it did. -/
def lawS1502AModelSpec : ChangeSpec := { name := "lawS1502AModel", fn := fun _ => fun
  | [d1, d2, d3, d4] => { results := [.lit (.bool true)], args := [d1, d2, d3, d4] }
  | _ => none }
def lawS1502AModelRow : OpenClaim := { program := "ybulkaebu", sum := "9e19217f1df13782b80a2a979fc08af181644c552487c0e0f20b0ac823ce2f4a", func := "example.com/bouncewright/bouncewright.LawS1502AModel", spec := "lawS1502AModel", inPlace := ["internal/bytealg.IndexByteString", "internal/bytealg.IndexString", "internal/abi.NoEscape", "internal/bytealg.MakeNoZero"], named := ["internal/bytealg.MaxLen"], apart := false }
def LawS1502AModelSaid : Prop := lawS1502AModelRow.holds Yba.pinned (OpenSpec.ofChange lawS1502AModelSpec)

/-- ITS FALSE NEIGHBOUR: 'it returns false'. Refute it at one input. -/
def lawS1502AModelWrong : ChangeSpec := { name := "lawS1502AModel", fn := fun _ => fun
  | [d1, d2, d3, d4] => { results := [.lit (.bool false)], args := [d1, d2, d3, d4] }
  | _ => none }
def LawS1502AModelWrongFalsely : Prop := lawS1502AModelRow.holds Yba.pinned (OpenSpec.ofChange lawS1502AModelWrong)

/-- 'bouncewright.LawS1502ABuilt': WHATEVER THE INPUT: true; the input reads as it did. -/
def lawS1502ABuiltSpec : ChangeSpec := { name := "lawS1502ABuilt", fn := fun _ => fun
  | [d1, d2] => { results := [.lit (.bool true)], args := [d1, d2] }
  | _ => none }
def lawS1502ABuiltRow : OpenClaim := { program := "ybulkaebu", sum := "9e19217f1df13782b80a2a979fc08af181644c552487c0e0f20b0ac823ce2f4a", func := "example.com/bouncewright/bouncewright.LawS1502ABuilt", spec := "lawS1502ABuilt", inPlace := ["internal/bytealg.IndexByteString", "internal/bytealg.IndexString", "internal/abi.NoEscape", "internal/bytealg.MakeNoZero"], named := ["internal/bytealg.MaxLen"], apart := false }
def LawS1502ABuiltSaid : Prop := lawS1502ABuiltRow.holds Yba.pinned (OpenSpec.ofChange lawS1502ABuiltSpec)

/-- ITS FALSE NEIGHBOUR: 'it returns false'. Refute it at one input. -/
def lawS1502ABuiltWrong : ChangeSpec := { name := "lawS1502ABuilt", fn := fun _ => fun
  | [d1, d2] => { results := [.lit (.bool false)], args := [d1, d2] }
  | _ => none }
def LawS1502ABuiltWrongFalsely : Prop := lawS1502ABuiltRow.holds Yba.pinned (OpenSpec.ofChange lawS1502ABuiltWrong)

/-- 'bouncewright.LawS1502BExact': WHATEVER THE INPUT: true; the input reads as it did. -/
def lawS1502BExactSpec : ChangeSpec := { name := "lawS1502BExact", fn := fun _ => fun
  | [d] => { results := [.lit (.bool true)], args := [d] }
  | _ => none }
def lawS1502BExactRow : OpenClaim := { program := "ybulkaebu", sum := "9e19217f1df13782b80a2a979fc08af181644c552487c0e0f20b0ac823ce2f4a", func := "example.com/bouncewright/bouncewright.LawS1502BExact", spec := "lawS1502BExact", inPlace := ["internal/bytealg.IndexByteString"], apart := false }
def LawS1502BExactSaid : Prop := lawS1502BExactRow.holds Yba.pinned (OpenSpec.ofChange lawS1502BExactSpec)

/-- ITS FALSE NEIGHBOUR: 'it returns false'. Refute it at one input. -/
def lawS1502BExactWrong : ChangeSpec := { name := "lawS1502BExact", fn := fun _ => fun
  | [d] => { results := [.lit (.bool false)], args := [d] }
  | _ => none }
def LawS1502BExactWrongFalsely : Prop := lawS1502BExactRow.holds Yba.pinned (OpenSpec.ofChange lawS1502BExactWrong)

/-- 'bouncewright.LawS1502BConcat': WHATEVER THE INPUT: true; the input reads as it did. -/
def lawS1502BConcatSpec : ChangeSpec := { name := "lawS1502BConcat", fn := fun _ => fun
  | [d1, d2] => { results := [.lit (.bool true)], args := [d1, d2] }
  | _ => none }
def lawS1502BConcatRow : OpenClaim := { program := "ybulkaebu", sum := "9e19217f1df13782b80a2a979fc08af181644c552487c0e0f20b0ac823ce2f4a", func := "example.com/bouncewright/bouncewright.LawS1502BConcat", spec := "lawS1502BConcat", inPlace := ["internal/bytealg.IndexByteString"], apart := false }
def LawS1502BConcatSaid : Prop := lawS1502BConcatRow.holds Yba.pinned (OpenSpec.ofChange lawS1502BConcatSpec)

/-- ITS FALSE NEIGHBOUR: 'it returns false'. Refute it at one input. -/
def lawS1502BConcatWrong : ChangeSpec := { name := "lawS1502BConcat", fn := fun _ => fun
  | [d1, d2] => { results := [.lit (.bool false)], args := [d1, d2] }
  | _ => none }
def LawS1502BConcatWrongFalsely : Prop := lawS1502BConcatRow.holds Yba.pinned (OpenSpec.ofChange lawS1502BConcatWrong)

/-- 'bouncewright.LawS1502BEachByte': WHATEVER THE INPUT: true; the input reads as it did. -/
def lawS1502BEachByteSpec : ChangeSpec := { name := "lawS1502BEachByte", fn := fun _ => fun
  | [d] => { results := [.lit (.bool true)], args := [d] }
  | _ => none }
def lawS1502BEachByteRow : OpenClaim := { program := "ybulkaebu", sum := "9e19217f1df13782b80a2a979fc08af181644c552487c0e0f20b0ac823ce2f4a", func := "example.com/bouncewright/bouncewright.LawS1502BEachByte", spec := "lawS1502BEachByte", inPlace := ["internal/bytealg.IndexByteString"], apart := false }
def LawS1502BEachByteSaid : Prop := lawS1502BEachByteRow.holds Yba.pinned (OpenSpec.ofChange lawS1502BEachByteSpec)

/-- ITS FALSE NEIGHBOUR: 'it returns false'. Refute it at one input. -/
def lawS1502BEachByteWrong : ChangeSpec := { name := "lawS1502BEachByte", fn := fun _ => fun
  | [d] => { results := [.lit (.bool false)], args := [d] }
  | _ => none }
def LawS1502BEachByteWrongFalsely : Prop := lawS1502BEachByteRow.holds Yba.pinned (OpenSpec.ofChange lawS1502BEachByteWrong)

/-- 'bouncewright.LawS1502CExact': WHATEVER THE INPUT: true; the input reads as it did. -/
def lawS1502CExactSpec : ChangeSpec := { name := "lawS1502CExact", fn := fun _ => fun
  | [d1, d2] => { results := [.lit (.bool true)], args := [d1, d2] }
  | _ => none }
def lawS1502CExactRow : OpenClaim := { program := "ybulkaebu", sum := "9e19217f1df13782b80a2a979fc08af181644c552487c0e0f20b0ac823ce2f4a", func := "example.com/bouncewright/bouncewright.LawS1502CExact", spec := "lawS1502CExact", apart := false }
def LawS1502CExactSaid : Prop := lawS1502CExactRow.holds Yba.pinned (OpenSpec.ofChange lawS1502CExactSpec)

/-- ITS FALSE NEIGHBOUR: 'it returns false'. Refute it at one input. -/
def lawS1502CExactWrong : ChangeSpec := { name := "lawS1502CExact", fn := fun _ => fun
  | [d1, d2] => { results := [.lit (.bool false)], args := [d1, d2] }
  | _ => none }
def LawS1502CExactWrongFalsely : Prop := lawS1502CExactRow.holds Yba.pinned (OpenSpec.ofChange lawS1502CExactWrong)

/-- 'bouncewright.LawS1502CPositiveKept': WHATEVER THE INPUT: true; the input reads as it did. -/
def lawS1502CPositiveKeptSpec : ChangeSpec := { name := "lawS1502CPositiveKept", fn := fun _ => fun
  | [d1, d2] => { results := [.lit (.bool true)], args := [d1, d2] }
  | _ => none }
def lawS1502CPositiveKeptRow : OpenClaim := { program := "ybulkaebu", sum := "9e19217f1df13782b80a2a979fc08af181644c552487c0e0f20b0ac823ce2f4a", func := "example.com/bouncewright/bouncewright.LawS1502CPositiveKept", spec := "lawS1502CPositiveKept", apart := false }
def LawS1502CPositiveKeptSaid : Prop := lawS1502CPositiveKeptRow.holds Yba.pinned (OpenSpec.ofChange lawS1502CPositiveKeptSpec)

/-- ITS FALSE NEIGHBOUR: 'it returns false'. Refute it at one input. -/
def lawS1502CPositiveKeptWrong : ChangeSpec := { name := "lawS1502CPositiveKept", fn := fun _ => fun
  | [d1, d2] => { results := [.lit (.bool false)], args := [d1, d2] }
  | _ => none }
def LawS1502CPositiveKeptWrongFalsely : Prop := lawS1502CPositiveKeptRow.holds Yba.pinned (OpenSpec.ofChange lawS1502CPositiveKeptWrong)

end Rows
end Go.Proofs.Ybulkaebu

/-
  No cell of these rows narrows 'for every input' (looked for: loops, veiled, ifaces, maps, wideKeys, modest, calm, conditions, laid).
  DERIVED. THE GIVEN ROWS OF THIS SEAT. 4 by the template 'for every input the law returns true; each argument reads behind the call as it read before'; 0 by the template 'total and deterministic' (their statements: YbulkadxmTotals.lean).
  GIVEN WITH THE SEED: the statements are not yours to turn. If you find one false, say at which input.
  Laid BY PROGRAM, IN A SANDBOX (cutbox-rows.mjs): the forced cells as the released guide's own fill.sh prints them over the translation d17266b984295503… (all of the seat's roots in one cut). By AI agents, Wed Nov 11 2026. No macro, syntax, notation, axiom, sorry.
-/
import Derived.Test.YbulkadxmChecked
import GoSem.Claim
import GoSem.ClaimJoined
import GoSem.ClaimMapViews
import Derived.JoinedTies
import Derived.KernelRfl
namespace Go.Proofs.Ybulkadxm
/- THE CELL 'sum', in the pinned program and in every row, IS THE sha256 OF THE DUMP (.gsa) THAT YbulkadxmProg.lean LOADS. Nothing in Lean hashes anything: it is a label: what it is worth is what the hold of that sum in a sandbox is worth. -/
noncomputable def Yba.pinned : Pinned := { name := "ybulkadxm", sum := "d17266b98429550376862bc610e2c28cfc177bbf6eed4ac1fa9602e2ad83f901", checked := Yba.checked }
namespace Rows
def none {H : Type} : Left H := { results := [], args := [] }

/-- 'anchor.LawS1494AFirst32': WHATEVER THE INPUT: true; the input reads as it did. -/
def lawS1494AFirst32Spec : ChangeSpec := { name := "lawS1494AFirst32", fn := fun _ => fun
  | [d1, d2] => { results := [.lit (.bool true)], args := [d1, d2] }
  | _ => none }
def lawS1494AFirst32Row : OpenClaim := { program := "ybulkadxm", sum := "d17266b98429550376862bc610e2c28cfc177bbf6eed4ac1fa9602e2ad83f901", func := "example.com/mudskipper/mudskipper/anchor.LawS1494AFirst32", spec := "lawS1494AFirst32", apart := false }
def LawS1494AFirst32Said : Prop := lawS1494AFirst32Row.holds Yba.pinned (OpenSpec.ofChange lawS1494AFirst32Spec)

/-- ITS FALSE NEIGHBOUR: 'it returns false'. Refute it at one input. -/
def lawS1494AFirst32Wrong : ChangeSpec := { name := "lawS1494AFirst32", fn := fun _ => fun
  | [d1, d2] => { results := [.lit (.bool false)], args := [d1, d2] }
  | _ => none }
def LawS1494AFirst32WrongFalsely : Prop := lawS1494AFirst32Row.holds Yba.pinned (OpenSpec.ofChange lawS1494AFirst32Wrong)

/-- 'anchor.LawS1494AFirst16': WHATEVER THE INPUT: true; the input reads as it did. -/
def lawS1494AFirst16Spec : ChangeSpec := { name := "lawS1494AFirst16", fn := fun _ => fun
  | [d1, d2, d3] => { results := [.lit (.bool true)], args := [d1, d2, d3] }
  | _ => none }
def lawS1494AFirst16Row : OpenClaim := { program := "ybulkadxm", sum := "d17266b98429550376862bc610e2c28cfc177bbf6eed4ac1fa9602e2ad83f901", func := "example.com/mudskipper/mudskipper/anchor.LawS1494AFirst16", spec := "lawS1494AFirst16", apart := false }
def LawS1494AFirst16Said : Prop := lawS1494AFirst16Row.holds Yba.pinned (OpenSpec.ofChange lawS1494AFirst16Spec)

/-- ITS FALSE NEIGHBOUR: 'it returns false'. Refute it at one input. -/
def lawS1494AFirst16Wrong : ChangeSpec := { name := "lawS1494AFirst16", fn := fun _ => fun
  | [d1, d2, d3] => { results := [.lit (.bool false)], args := [d1, d2, d3] }
  | _ => none }
def LawS1494AFirst16WrongFalsely : Prop := lawS1494AFirst16Row.holds Yba.pinned (OpenSpec.ofChange lawS1494AFirst16Wrong)

/-- 'anchor.LawS1494BCounts': WHATEVER THE INPUT: true; the input reads as it did. -/
def lawS1494BCountsSpec : ChangeSpec := { name := "lawS1494BCounts", fn := fun _ => fun
  | [d1, d2, d3, d4] => { results := [.lit (.bool true)], args := [d1, d2, d3, d4] }
  | _ => none }
def lawS1494BCountsRow : OpenClaim := { program := "ybulkadxm", sum := "d17266b98429550376862bc610e2c28cfc177bbf6eed4ac1fa9602e2ad83f901", func := "example.com/mudskipper/mudskipper/anchor.LawS1494BCounts", spec := "lawS1494BCounts", apart := false }
def LawS1494BCountsSaid : Prop := lawS1494BCountsRow.holds Yba.pinned (OpenSpec.ofChange lawS1494BCountsSpec)

/-- ITS FALSE NEIGHBOUR: 'it returns false'. Refute it at one input. -/
def lawS1494BCountsWrong : ChangeSpec := { name := "lawS1494BCounts", fn := fun _ => fun
  | [d1, d2, d3, d4] => { results := [.lit (.bool false)], args := [d1, d2, d3, d4] }
  | _ => none }
def LawS1494BCountsWrongFalsely : Prop := lawS1494BCountsRow.holds Yba.pinned (OpenSpec.ofChange lawS1494BCountsWrong)

/-- 'anchor.LawS1494BFresh': WHATEVER THE INPUT: true; the input reads as it did. -/
def lawS1494BFreshSpec : ChangeSpec := { name := "lawS1494BFresh", fn := fun _ => fun
  | [d1, d2, d3] => { results := [.lit (.bool true)], args := [d1, d2, d3] }
  | _ => none }
def lawS1494BFreshRow : OpenClaim := { program := "ybulkadxm", sum := "d17266b98429550376862bc610e2c28cfc177bbf6eed4ac1fa9602e2ad83f901", func := "example.com/mudskipper/mudskipper/anchor.LawS1494BFresh", spec := "lawS1494BFresh", apart := false }
def LawS1494BFreshSaid : Prop := lawS1494BFreshRow.holds Yba.pinned (OpenSpec.ofChange lawS1494BFreshSpec)

/-- ITS FALSE NEIGHBOUR: 'it returns false'. Refute it at one input. -/
def lawS1494BFreshWrong : ChangeSpec := { name := "lawS1494BFresh", fn := fun _ => fun
  | [d1, d2, d3] => { results := [.lit (.bool false)], args := [d1, d2, d3] }
  | _ => none }
def LawS1494BFreshWrongFalsely : Prop := lawS1494BFreshRow.holds Yba.pinned (OpenSpec.ofChange lawS1494BFreshWrong)

end Rows
end Go.Proofs.Ybulkadxm

/-
  No cell of these rows narrows 'for every input' (looked for: loops, veiled, ifaces, maps, wideKeys, modest, calm, conditions, laid).
  DERIVED. THE GIVEN ROWS OF THIS SEAT. 2 by the template 'for every input the law returns true; each argument reads behind the call as it read before'; 0 by the template 'total and deterministic' (their statements: YbulkadyoTotals.lean).
  GIVEN WITH THE SEED: the statements are not yours to turn. If you find one false, say at which input.
  Laid BY PROGRAM, IN A SANDBOX (cutbox-rows.mjs): the forced cells as the released guide's own fill.sh prints them over the translation 33ec84a4ce11b825… (all of the seat's roots in one cut). By AI agents, Wed Nov 11 2026. No macro, syntax, notation, axiom, sorry.
-/
import Derived.Test.YbulkadyoChecked
import GoSem.Claim
import GoSem.ClaimJoined
import GoSem.ClaimMapViews
import Derived.JoinedTies
import Derived.KernelRfl
namespace Go.Proofs.Ybulkadyo
/- THE CELL 'sum', in the pinned program and in every row, IS THE sha256 OF THE DUMP (.gsa) THAT YbulkadyoProg.lean LOADS. Nothing in Lean hashes anything: it is a label: what it is worth is what the hold of that sum in a sandbox is worth. -/
noncomputable def Yba.pinned : Pinned := { name := "ybulkadyo", sum := "33ec84a4ce11b825d01ccd5192dd34012489813b57c7d9c2a5f52b594c7dc37e", checked := Yba.checked }
namespace Rows
def none {H : Type} : Left H := { results := [], args := [] }

/-- 'protocol.LawS1496CModel': WHATEVER THE INPUT: true; the input reads as it did. -/
def lawS1496CModelSpec : ChangeSpec := { name := "lawS1496CModel", fn := fun _ => fun
  | [d] => { results := [.lit (.bool true)], args := [d] }
  | _ => none }
def lawS1496CModelRow : OpenClaim := { program := "ybulkadyo", sum := "33ec84a4ce11b825d01ccd5192dd34012489813b57c7d9c2a5f52b594c7dc37e", func := "example.com/pebblevault/pebblevault/protocol.LawS1496CModel", spec := "lawS1496CModel", apart := false }
def LawS1496CModelSaid : Prop := lawS1496CModelRow.holds Yba.pinned (OpenSpec.ofChange lawS1496CModelSpec)

/-- ITS FALSE NEIGHBOUR: 'it returns false'. Refute it at one input. -/
def lawS1496CModelWrong : ChangeSpec := { name := "lawS1496CModel", fn := fun _ => fun
  | [d] => { results := [.lit (.bool false)], args := [d] }
  | _ => none }
def LawS1496CModelWrongFalsely : Prop := lawS1496CModelRow.holds Yba.pinned (OpenSpec.ofChange lawS1496CModelWrong)

/-- 'protocol.LawS1496CRoundTrip': WHATEVER THE INPUT: true; the input reads as it did. -/
def lawS1496CRoundTripSpec : ChangeSpec := { name := "lawS1496CRoundTrip", fn := fun _ => fun
  | [d] => { results := [.lit (.bool true)], args := [d] }
  | _ => none }
def lawS1496CRoundTripRow : OpenClaim := { program := "ybulkadyo", sum := "33ec84a4ce11b825d01ccd5192dd34012489813b57c7d9c2a5f52b594c7dc37e", func := "example.com/pebblevault/pebblevault/protocol.LawS1496CRoundTrip", spec := "lawS1496CRoundTrip", apart := false }
def LawS1496CRoundTripSaid : Prop := lawS1496CRoundTripRow.holds Yba.pinned (OpenSpec.ofChange lawS1496CRoundTripSpec)

/-- ITS FALSE NEIGHBOUR: 'it returns false'. Refute it at one input. -/
def lawS1496CRoundTripWrong : ChangeSpec := { name := "lawS1496CRoundTrip", fn := fun _ => fun
  | [d] => { results := [.lit (.bool false)], args := [d] }
  | _ => none }
def LawS1496CRoundTripWrongFalsely : Prop := lawS1496CRoundTripRow.holds Yba.pinned (OpenSpec.ofChange lawS1496CRoundTripWrong)

end Rows
end Go.Proofs.Ybulkadyo

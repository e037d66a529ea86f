/-
  No cell of these rows narrows 'for every input' (looked for: loops, veiled, ifaces, maps, wideKeys, modest, calm, conditions, laid).
  DERIVED. THE GIVEN ROWS OF THIS SEAT. 3 by the template 'for every input the law returns true; each argument reads behind the call as it read before'; 0 by the template 'total and deterministic' (their statements: YbulkaurqTotals.lean).
  GIVEN WITH THE SEED: the statements are not yours to turn. If you find one false, say at which input.
  Laid BY PROGRAM, IN A SANDBOX (cutbox-rows.mjs): the forced cells as the released guide's own fill.sh prints them over the translation 00793846868e22c9… (all of the seat's roots in one cut). By AI agents, Wed Nov 11 2026. No macro, syntax, notation, axiom, sorry.
-/
import Derived.Test.YbulkaurqChecked
import GoSem.Claim
import GoSem.ClaimJoined
import GoSem.ClaimMapViews
import Derived.JoinedTies
import Derived.KernelRfl
namespace Go.Proofs.Ybulkaurq
/- THE CELL 'sum', in the pinned program and in every row, IS THE sha256 OF THE DUMP (.gsa) THAT YbulkaurqProg.lean LOADS. Nothing in Lean hashes anything: it is a label: what it is worth is what the hold of that sum in a sandbox is worth. -/
noncomputable def Yba.pinned : Pinned := { name := "ybulkaurq", sum := "00793846868e22c9f4413877b0c3eca1a7aa376fb96ee401e41211f5ac92ea5d", checked := Yba.checked }
namespace Rows
def none {H : Type} : Left H := { results := [], args := [] }

/-- 'ike.LawS2304BExact': WHATEVER THE INPUT: true; the input reads as it did. -/
def lawS2304BExactSpec : ChangeSpec := { name := "lawS2304BExact", fn := fun _ => fun
  | [d1, d2, d3, d4] => { results := [.lit (.bool true)], args := [d1, d2, d3, d4] }
  | _ => none }
def lawS2304BExactRow : OpenClaim := { program := "ybulkaurq", sum := "00793846868e22c9f4413877b0c3eca1a7aa376fb96ee401e41211f5ac92ea5d", func := "example.com/holdfast/holdfast/ike.LawS2304BExact", spec := "lawS2304BExact", named := ["encoding/binary.BigEndian"], apart := false }
def LawS2304BExactSaid : Prop := lawS2304BExactRow.holds Yba.pinned (OpenSpec.ofChange lawS2304BExactSpec)

/-- ITS FALSE NEIGHBOUR: 'it returns false'. Refute it at one input. -/
def lawS2304BExactWrong : ChangeSpec := { name := "lawS2304BExact", fn := fun _ => fun
  | [d1, d2, d3, d4] => { results := [.lit (.bool false)], args := [d1, d2, d3, d4] }
  | _ => none }
def LawS2304BExactWrongFalsely : Prop := lawS2304BExactRow.holds Yba.pinned (OpenSpec.ofChange lawS2304BExactWrong)

/-- 'ike.LawS2304BRoundTrip': WHATEVER THE INPUT: true; the input reads as it did. -/
def lawS2304BRoundTripSpec : ChangeSpec := { name := "lawS2304BRoundTrip", fn := fun _ => fun
  | [d1, d2, d3, d4] => { results := [.lit (.bool true)], args := [d1, d2, d3, d4] }
  | _ => none }
def lawS2304BRoundTripRow : OpenClaim := { program := "ybulkaurq", sum := "00793846868e22c9f4413877b0c3eca1a7aa376fb96ee401e41211f5ac92ea5d", func := "example.com/holdfast/holdfast/ike.LawS2304BRoundTrip", spec := "lawS2304BRoundTrip", named := ["encoding/binary.BigEndian"], apart := false }
def LawS2304BRoundTripSaid : Prop := lawS2304BRoundTripRow.holds Yba.pinned (OpenSpec.ofChange lawS2304BRoundTripSpec)

/-- ITS FALSE NEIGHBOUR: 'it returns false'. Refute it at one input. -/
def lawS2304BRoundTripWrong : ChangeSpec := { name := "lawS2304BRoundTrip", fn := fun _ => fun
  | [d1, d2, d3, d4] => { results := [.lit (.bool false)], args := [d1, d2, d3, d4] }
  | _ => none }
def LawS2304BRoundTripWrongFalsely : Prop := lawS2304BRoundTripRow.holds Yba.pinned (OpenSpec.ofChange lawS2304BRoundTripWrong)

/-- 'esp.LawS2304CModel': WHATEVER THE INPUT: true; the input reads as it did. -/
def lawS2304CModelSpec : ChangeSpec := { name := "lawS2304CModel", fn := fun _ => fun
  | [d1, d2] => { results := [.lit (.bool true)], args := [d1, d2] }
  | _ => none }
def lawS2304CModelRow : OpenClaim := { program := "ybulkaurq", sum := "00793846868e22c9f4413877b0c3eca1a7aa376fb96ee401e41211f5ac92ea5d", func := "example.com/holdfast/holdfast/esp.LawS2304CModel", spec := "lawS2304CModel", apart := false }
def LawS2304CModelSaid : Prop := lawS2304CModelRow.holds Yba.pinned (OpenSpec.ofChange lawS2304CModelSpec)

/-- ITS FALSE NEIGHBOUR: 'it returns false'. Refute it at one input. -/
def lawS2304CModelWrong : ChangeSpec := { name := "lawS2304CModel", fn := fun _ => fun
  | [d1, d2] => { results := [.lit (.bool false)], args := [d1, d2] }
  | _ => none }
def LawS2304CModelWrongFalsely : Prop := lawS2304CModelRow.holds Yba.pinned (OpenSpec.ofChange lawS2304CModelWrong)

end Rows
end Go.Proofs.Ybulkaurq

/-
  No cell of these rows narrows 'for every input' (looked for: loops, veiled, ifaces, maps, wideKeys, modest, calm, conditions, laid).
  DERIVED. THE GIVEN ROWS OF THIS SEAT. 3 by the template 'for every input the law returns true; each argument reads behind the call as it read before'; 0 by the template 'total and deterministic' (their statements: YbulkaurcFmtTotals.lean).
  GIVEN WITH THE SEED: the statements are not yours to turn. If you find one false, say at which input.
  Laid BY PROGRAM, IN A SANDBOX (cutbox-rows.mjs): the forced cells as the released guide's own fill.sh prints them over the translation 4b6f6fed61397b1b… (all of the seat's roots in one cut). By AI agents, Wed Nov 11 2026. No macro, syntax, notation, axiom, sorry.
-/
import Derived.Test.YbulkaurcFmtChecked
import GoSem.Claim
import GoSem.ClaimJoined
import GoSem.ClaimMapViews
import Derived.JoinedTies
import Derived.KernelRfl
namespace Go.Proofs.YbulkaurcFmt
/- THE CELL 'sum', in the pinned program and in every row, IS THE sha256 OF THE DUMP (.gsa) THAT YbulkaurcFmtProg.lean LOADS. Nothing in Lean hashes anything: it is a label: what it is worth is what the hold of that sum in a sandbox is worth. -/
noncomputable def Ybaf.pinned : Pinned := { name := "ybulkaurcfmt", sum := "4b6f6fed61397b1b32774fedb5e9c8c06b0e4f0a03e031cf6de0f2a3c2b2334d", checked := Ybaf.checked }
namespace Rows
def none {H : Type} : Left H := { results := [], args := [] }

/-- 'wire.LawS2303ARoundTrip': WHATEVER THE INPUT: true; the input reads as it did. -/
def lawS2303ARoundTripSpec : ChangeSpec := { name := "lawS2303ARoundTrip", fn := fun _ => fun
  | [d1, d2, d3, d4] => { results := [.lit (.bool true)], args := [d1, d2, d3, d4] }
  | _ => none }
def lawS2303ARoundTripRow : OpenClaim := { program := "ybulkaurcfmt", sum := "4b6f6fed61397b1b32774fedb5e9c8c06b0e4f0a03e031cf6de0f2a3c2b2334d", func := "example.com/antecedent/antecedent/internal/wire.LawS2303ARoundTrip", spec := "lawS2303ARoundTrip", stops := ["fmt.errorf"], inPlace := ["fmt.errorf"], apart := false }
/-- NO THEOREM (fmt's text is open here; it may be false): for the released tool's asking of the row's closed facts alone. THE STATEMENT IS 'LawS2303ARoundTripToldSaid' (YbulkaurcFmtCards.lean). -/
def LawS2303ARoundTripFormAsk : Prop := lawS2303ARoundTripRow.holds Ybaf.pinned (OpenSpec.ofChange lawS2303ARoundTripSpec)

/-- ITS FALSE NEIGHBOUR: 'it returns false'. Refute it at one input. -/
def lawS2303ARoundTripWrong : ChangeSpec := { name := "lawS2303ARoundTrip", fn := fun _ => fun
  | [d1, d2, d3, d4] => { results := [.lit (.bool false)], args := [d1, d2, d3, d4] }
  | _ => none }
def LawS2303ARoundTripWrongFormAsk : Prop := lawS2303ARoundTripRow.holds Ybaf.pinned (OpenSpec.ofChange lawS2303ARoundTripWrong)

/-- 'wire.LawS2303ALength': WHATEVER THE INPUT: true; the input reads as it did. -/
def lawS2303ALengthSpec : ChangeSpec := { name := "lawS2303ALength", fn := fun _ => fun
  | [d1, d2, d3, d4, d5] => { results := [.lit (.bool true)], args := [d1, d2, d3, d4, d5] }
  | _ => none }
def lawS2303ALengthRow : OpenClaim := { program := "ybulkaurcfmt", sum := "4b6f6fed61397b1b32774fedb5e9c8c06b0e4f0a03e031cf6de0f2a3c2b2334d", func := "example.com/antecedent/antecedent/internal/wire.LawS2303ALength", spec := "lawS2303ALength", stops := ["fmt.errorf"], inPlace := ["fmt.errorf"], apart := false }
/-- NO THEOREM (fmt's text is open here; it may be false): for the released tool's asking of the row's closed facts alone. THE STATEMENT IS 'LawS2303ALengthToldSaid' (YbulkaurcFmtCards.lean). -/
def LawS2303ALengthFormAsk : Prop := lawS2303ALengthRow.holds Ybaf.pinned (OpenSpec.ofChange lawS2303ALengthSpec)

/-- ITS FALSE NEIGHBOUR: 'it returns false'. Refute it at one input. -/
def lawS2303ALengthWrong : ChangeSpec := { name := "lawS2303ALength", fn := fun _ => fun
  | [d1, d2, d3, d4, d5] => { results := [.lit (.bool false)], args := [d1, d2, d3, d4, d5] }
  | _ => none }
def LawS2303ALengthWrongFormAsk : Prop := lawS2303ALengthRow.holds Ybaf.pinned (OpenSpec.ofChange lawS2303ALengthWrong)

/-- 'wire.LawS2303ARefuse': WHATEVER THE INPUT: true; the input reads as it did. -/
def lawS2303ARefuseSpec : ChangeSpec := { name := "lawS2303ARefuse", fn := fun _ => fun
  | [d1, d2, d3, d4, d5, d6] => { results := [.lit (.bool true)], args := [d1, d2, d3, d4, d5, d6] }
  | _ => none }
def lawS2303ARefuseRow : OpenClaim := { program := "ybulkaurcfmt", sum := "4b6f6fed61397b1b32774fedb5e9c8c06b0e4f0a03e031cf6de0f2a3c2b2334d", func := "example.com/antecedent/antecedent/internal/wire.LawS2303ARefuse", spec := "lawS2303ARefuse", stops := ["fmt.errorf"], inPlace := ["fmt.errorf"], apart := false }
/-- NO THEOREM (fmt's text is open here; it may be false): for the released tool's asking of the row's closed facts alone. THE STATEMENT IS 'LawS2303ARefuseToldSaid' (YbulkaurcFmtCards.lean). -/
def LawS2303ARefuseFormAsk : Prop := lawS2303ARefuseRow.holds Ybaf.pinned (OpenSpec.ofChange lawS2303ARefuseSpec)

/-- ITS FALSE NEIGHBOUR: 'it returns false'. Refute it at one input. -/
def lawS2303ARefuseWrong : ChangeSpec := { name := "lawS2303ARefuse", fn := fun _ => fun
  | [d1, d2, d3, d4, d5, d6] => { results := [.lit (.bool false)], args := [d1, d2, d3, d4, d5, d6] }
  | _ => none }
def LawS2303ARefuseWrongFormAsk : Prop := lawS2303ARefuseRow.holds Ybaf.pinned (OpenSpec.ofChange lawS2303ARefuseWrong)

end Rows
end Go.Proofs.YbulkaurcFmt

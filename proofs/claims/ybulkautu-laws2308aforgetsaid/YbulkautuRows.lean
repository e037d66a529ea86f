/-
  No cell of these rows narrows 'for every input' (looked for: loops, veiled, ifaces, maps, wideKeys, modest, calm, conditions, laid).
  DERIVED. THE GIVEN ROWS OF THIS SEAT. 1 by the template 'for every input the law returns true; each argument reads behind the call as it read before'; 0 by the template 'total and deterministic' (their statements: YbulkautuTotals.lean).
  GIVEN WITH THE SEED: the statements are not yours to turn. If you find one false, say at which input.
  Laid BY PROGRAM, IN A SANDBOX (cutbox-rows.mjs): the forced cells as the released guide's own fill.sh prints them over the translation d445a46d4ff2350e… (all of the seat's roots in one cut). By AI agents, Wed Nov 11 2026. No macro, syntax, notation, axiom, sorry.
-/
import Derived.Test.YbulkautuChecked
import GoSem.Claim
import GoSem.ClaimJoined
import GoSem.ClaimMapViews
import Derived.JoinedTies
import Derived.KernelRfl
namespace Go.Proofs.Ybulkautu
/- THE CELL 'sum', in the pinned program and in every row, IS THE sha256 OF THE DUMP (.gsa) THAT YbulkautuProg.lean LOADS. Nothing in Lean hashes anything: it is a label: what it is worth is what the hold of that sum in a sandbox is worth. -/
noncomputable def Yba.pinned : Pinned := { name := "ybulkautu", sum := "d445a46d4ff2350e59410ac5c7a554dcda1c8cc68a71c57422803e9b9b30a8cf", checked := Yba.checked }
namespace Rows
def none {H : Type} : Left H := { results := [], args := [] }

/-- 'store.LawS2308AForget': WHATEVER THE INPUT: true; the input reads as it did. -/
def lawS2308AForgetSpec : ChangeSpec := { name := "lawS2308AForget", fn := fun _ => fun
  | [d1, d2, d3, d4, d5] => { results := [.lit (.bool true)], args := [d1, d2, d3, d4, d5] }
  | _ => none }
def lawS2308AForgetRow : OpenClaim := { program := "ybulkautu", sum := "d445a46d4ff2350e59410ac5c7a554dcda1c8cc68a71c57422803e9b9b30a8cf", func := "causeway.example/causeway/internal/store.LawS2308AForget", spec := "lawS2308AForget", unfollowed := true, recurses := true, apart := false }
def LawS2308AForgetSaid : Prop := lawS2308AForgetRow.holds Yba.pinned (OpenSpec.ofChange lawS2308AForgetSpec)

/-- ITS FALSE NEIGHBOUR: 'it returns false'. Refute it at one input. -/
def lawS2308AForgetWrong : ChangeSpec := { name := "lawS2308AForget", fn := fun _ => fun
  | [d1, d2, d3, d4, d5] => { results := [.lit (.bool false)], args := [d1, d2, d3, d4, d5] }
  | _ => none }
def LawS2308AForgetWrongFalsely : Prop := lawS2308AForgetRow.holds Yba.pinned (OpenSpec.ofChange lawS2308AForgetWrong)

end Rows
end Go.Proofs.Ybulkautu

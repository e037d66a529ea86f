/-
  No cell of these rows narrows 'for every input' (looked for: loops, veiled, ifaces, maps, wideKeys, modest, calm, conditions, laid).
  DERIVED. THE GIVEN ROWS OF THIS SEAT. 1 by the template 'for every input the law returns true; each argument reads behind the call as it read before'; 0 by the template 'total and deterministic' (their statements: YbulkautgTotals.lean).
  GIVEN WITH THE SEED: the statements are not yours to turn. If you find one false, say at which input.
  Laid BY PROGRAM, IN A SANDBOX (cutbox-rows.mjs): the forced cells as the released guide's own fill.sh prints them over the translation cbb4956ad917db78… (all of the seat's roots in one cut). By AI agents, Wed Nov 11 2026. No macro, syntax, notation, axiom, sorry.
-/
import Derived.Test.YbulkautgChecked
import GoSem.Claim
import GoSem.ClaimJoined
import GoSem.ClaimMapViews
import Derived.JoinedTies
import Derived.KernelRfl
namespace Go.Proofs.Ybulkautg
/- THE CELL 'sum', in the pinned program and in every row, IS THE sha256 OF THE DUMP (.gsa) THAT YbulkautgProg.lean LOADS. Nothing in Lean hashes anything: it is a label: what it is worth is what the hold of that sum in a sandbox is worth. -/
noncomputable def Yba.pinned : Pinned := { name := "ybulkautg", sum := "cbb4956ad917db7817c40f868b4d3ecfb86ac6b4bf0d6b94e8922f0198ce9b95", checked := Yba.checked }
namespace Rows
def none {H : Type} : Left H := { results := [], args := [] }

/-- 'unit.LawS2307AScript': WHATEVER THE INPUT: true; the input reads as it did. -/
def lawS2307AScriptSpec : ChangeSpec := { name := "lawS2307AScript", fn := fun _ => fun
  | [d1, d2] => { results := [.lit (.bool true)], args := [d1, d2] }
  | _ => none }
def lawS2307AScriptRow : OpenClaim := { program := "ybulkautg", sum := "cbb4956ad917db7817c40f868b4d3ecfb86ac6b4bf0d6b94e8922f0198ce9b95", func := "example.com/berth/berth/unit.LawS2307AScript", spec := "lawS2307AScript", apart := false }
def LawS2307AScriptSaid : Prop := lawS2307AScriptRow.holds Yba.pinned (OpenSpec.ofChange lawS2307AScriptSpec)

/-- ITS FALSE NEIGHBOUR: 'it returns false'. Refute it at one input. -/
def lawS2307AScriptWrong : ChangeSpec := { name := "lawS2307AScript", fn := fun _ => fun
  | [d1, d2] => { results := [.lit (.bool false)], args := [d1, d2] }
  | _ => none }
def LawS2307AScriptWrongFalsely : Prop := lawS2307AScriptRow.holds Yba.pinned (OpenSpec.ofChange lawS2307AScriptWrong)

end Rows
end Go.Proofs.Ybulkautg

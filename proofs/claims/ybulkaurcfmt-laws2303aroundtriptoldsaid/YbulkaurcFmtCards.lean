/-
  DERIVED. GIVEN WITH THE SEED: THE CARDS: each row of YbulkaurcFmtRows.lean that lists a variable, with what it lists TIED to the program's text (the seventh form; the later family's looks); each row that meets fmt, with fmt's text TOLD by the authors' own Lean function (tested against real Go, not proved from fmt's source: count such statements apart). THE CARD IS WHAT COUNTS. Prove the row's statement (the work); the ties are given (YbulkaurcFmtTie.lean); close each card by the builder's one call (the guide's Derived/Test/ToyasCard.lean, 'card_holds'). Laid BY PROGRAM, IN A SANDBOX (cutbox-door.mjs). By AI agents, Wed Nov 11 2026. No macro, syntax, notation, axiom, sorry.
-/
import Derived.Test.YbulkaurcFmtRows
import GoSem.ClaimSeven
namespace Go.Proofs.YbulkaurcFmt
namespace Rows

/-- THE TOLD CARD OF 'wire.LawS2303ARoundTrip'. -/
def lawS2303ARoundTripCard : Claim7 := { stood := { row := lawS2303ARoundTripRow, standIns := [], harness := (true, "2323a7135a3b2932b2203561b2cda2ca109d7a0a47932e7d8b0f1c486436bc63"), looks := false }, told := true, goes := false }
def LawS2303ARoundTripToldSaid : Prop := Claim7.holds Ybaf.pinned (.plain (OpenSpec.ofChange lawS2303ARoundTripSpec)) lawS2303ARoundTripCard
/-- ITS FALSE NEIGHBOUR. Refute it at one input. -/
def LawS2303ARoundTripToldWrongFalsely : Prop := Claim7.holds Ybaf.pinned (.plain (OpenSpec.ofChange lawS2303ARoundTripWrong)) lawS2303ARoundTripCard

/-- THE TOLD CARD OF 'wire.LawS2303ALength'. -/
def lawS2303ALengthCard : Claim7 := { stood := { row := lawS2303ALengthRow, standIns := [], harness := (true, "2323a7135a3b2932b2203561b2cda2ca109d7a0a47932e7d8b0f1c486436bc63"), looks := false }, told := true, goes := false }
def LawS2303ALengthToldSaid : Prop := Claim7.holds Ybaf.pinned (.plain (OpenSpec.ofChange lawS2303ALengthSpec)) lawS2303ALengthCard
/-- ITS FALSE NEIGHBOUR. Refute it at one input. -/
def LawS2303ALengthToldWrongFalsely : Prop := Claim7.holds Ybaf.pinned (.plain (OpenSpec.ofChange lawS2303ALengthWrong)) lawS2303ALengthCard

/-- THE TOLD CARD OF 'wire.LawS2303ARefuse'. -/
def lawS2303ARefuseCard : Claim7 := { stood := { row := lawS2303ARefuseRow, standIns := [], harness := (true, "2323a7135a3b2932b2203561b2cda2ca109d7a0a47932e7d8b0f1c486436bc63"), looks := false }, told := true, goes := false }
def LawS2303ARefuseToldSaid : Prop := Claim7.holds Ybaf.pinned (.plain (OpenSpec.ofChange lawS2303ARefuseSpec)) lawS2303ARefuseCard
/-- ITS FALSE NEIGHBOUR. Refute it at one input. -/
def LawS2303ARefuseToldWrongFalsely : Prop := Claim7.holds Ybaf.pinned (.plain (OpenSpec.ofChange lawS2303ARefuseWrong)) lawS2303ARefuseCard
end Rows
end Go.Proofs.YbulkaurcFmt

/-
  DERIVED. GIVEN WITH THE SEED: THE CARDS: each row of YbulkaqtwFmtRows.lean that lists a variable, with what it lists TIED to the program's text (the seventh form; the later family's looks); each row that meets fmt, with fmt's text TOLD by the authors' own Lean function (tested against real Go, not proved from fmt's source: count such statements apart). THE CARD IS WHAT COUNTS. Prove the row's statement (the work); the ties are given (YbulkaqtwFmtTie.lean); close each card by the builder's one call (the guide's Derived/Test/ToyasCard.lean, 'card_holds'). Laid BY PROGRAM, IN A SANDBOX (cutbox-door.mjs). By AI agents, Wed Nov 11 2026. No macro, syntax, notation, axiom, sorry.
-/
import Derived.Test.YbulkaqtwFmtRows
import GoSem.ClaimSeven
namespace Go.Proofs.YbulkaqtwFmt
namespace Rows

/-- THE TOLD CARD OF 'limit.LawS2115CNames'. -/
def lawS2115CNamesCard : Claim7 := { stood := { row := lawS2115CNamesRow, standIns := [], harness := (true, "9c1c1692da3252747c713455bb18b1d347815e929e3cc4446b0b62cd1bab3614"), looks := false }, told := true, goes := false }
def LawS2115CNamesToldSaid : Prop := Claim7.holds Ybaf.pinned (.plain (OpenSpec.ofChange lawS2115CNamesSpec)) lawS2115CNamesCard
/-- ITS FALSE NEIGHBOUR. Refute it at one input. -/
def LawS2115CNamesToldWrongFalsely : Prop := Claim7.holds Ybaf.pinned (.plain (OpenSpec.ofChange lawS2115CNamesWrong)) lawS2115CNamesCard

/-- THE TOLD CARD OF 'limit.LawS2115CDistinct'. -/
def lawS2115CDistinctCard : Claim7 := { stood := { row := lawS2115CDistinctRow, standIns := [], harness := (true, "9c1c1692da3252747c713455bb18b1d347815e929e3cc4446b0b62cd1bab3614"), looks := false }, told := true, goes := false }
def LawS2115CDistinctToldSaid : Prop := Claim7.holds Ybaf.pinned (.plain (OpenSpec.ofChange lawS2115CDistinctSpec)) lawS2115CDistinctCard
/-- ITS FALSE NEIGHBOUR. Refute it at one input. -/
def LawS2115CDistinctToldWrongFalsely : Prop := Claim7.holds Ybaf.pinned (.plain (OpenSpec.ofChange lawS2115CDistinctWrong)) lawS2115CDistinctCard
end Rows
end Go.Proofs.YbulkaqtwFmt

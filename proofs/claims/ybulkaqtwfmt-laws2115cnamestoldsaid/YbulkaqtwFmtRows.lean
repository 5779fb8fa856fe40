/-
  No cell of these rows narrows 'for every input' (looked for: loops, veiled, ifaces, maps, wideKeys, modest, calm, conditions, laid).
  DERIVED. THE GIVEN ROWS OF THIS SEAT. 2 by the template 'for every input the law returns true; each argument reads behind the call as it read before'; 0 by the template 'total and deterministic' (their statements: YbulkaqtwFmtTotals.lean).
  GIVEN WITH THE SEED: the statements are not yours to turn. If you find one false, say at which input.
  Laid BY PROGRAM, IN A SANDBOX (cutbox-rows.mjs): the forced cells as the released guide's own fill.sh prints them over the translation e98342ba1c088ad8… (all of the seat's roots in one cut). By AI agents, Wed Nov 11 2026. No macro, syntax, notation, axiom, sorry.
-/
import Derived.Test.YbulkaqtwFmtChecked
import GoSem.Claim
import GoSem.ClaimJoined
import GoSem.ClaimMapViews
import Derived.JoinedTies
import Derived.KernelRfl
namespace Go.Proofs.YbulkaqtwFmt
/- THE CELL 'sum', in the pinned program and in every row, IS THE sha256 OF THE DUMP (.gsa) THAT YbulkaqtwFmtProg.lean LOADS. Nothing in Lean hashes anything: it is a label: what it is worth is what the hold of that sum in a sandbox is worth. -/
noncomputable def Ybaf.pinned : Pinned := { name := "ybulkaqtwfmt", sum := "e98342ba1c088ad8d4eb6b52976d8c31e9d6e73048c1cce00f317f65450e1bfb", checked := Ybaf.checked }
namespace Rows
def none {H : Type} : Left H := { results := [], args := [] }

/-- 'limit.LawS2115CNames': WHATEVER THE INPUT: true; the input reads as it did. -/
def lawS2115CNamesSpec : ChangeSpec := { name := "lawS2115CNames", fn := fun _ => fun
  | [d] => { results := [.lit (.bool true)], args := [d] }
  | _ => none }
def lawS2115CNamesRow : OpenClaim := { program := "ybulkaqtwfmt", sum := "e98342ba1c088ad8d4eb6b52976d8c31e9d6e73048c1cce00f317f65450e1bfb", func := "example.com/custoda/custoda/internal/limit.LawS2115CNames", spec := "lawS2115CNames", stops := ["fmt.Sprintf"], inPlace := ["fmt.Sprintf"], apart := false }
/-- NO THEOREM (fmt's text is open here; it may be false): for the released tool's asking of the row's closed facts alone. THE STATEMENT IS 'LawS2115CNamesToldSaid' (YbulkaqtwFmtCards.lean). -/
def LawS2115CNamesFormAsk : Prop := lawS2115CNamesRow.holds Ybaf.pinned (OpenSpec.ofChange lawS2115CNamesSpec)

/-- ITS FALSE NEIGHBOUR: 'it returns false'. Refute it at one input. -/
def lawS2115CNamesWrong : ChangeSpec := { name := "lawS2115CNames", fn := fun _ => fun
  | [d] => { results := [.lit (.bool false)], args := [d] }
  | _ => none }
def LawS2115CNamesWrongFormAsk : Prop := lawS2115CNamesRow.holds Ybaf.pinned (OpenSpec.ofChange lawS2115CNamesWrong)

/-- 'limit.LawS2115CDistinct': WHATEVER THE INPUT: true; the input reads as it did. -/
def lawS2115CDistinctSpec : ChangeSpec := { name := "lawS2115CDistinct", fn := fun _ => fun
  | [d1, d2] => { results := [.lit (.bool true)], args := [d1, d2] }
  | _ => none }
def lawS2115CDistinctRow : OpenClaim := { program := "ybulkaqtwfmt", sum := "e98342ba1c088ad8d4eb6b52976d8c31e9d6e73048c1cce00f317f65450e1bfb", func := "example.com/custoda/custoda/internal/limit.LawS2115CDistinct", spec := "lawS2115CDistinct", stops := ["fmt.Sprintf"], inPlace := ["fmt.Sprintf"], apart := false }
/-- NO THEOREM (fmt's text is open here; it may be false): for the released tool's asking of the row's closed facts alone. THE STATEMENT IS 'LawS2115CDistinctToldSaid' (YbulkaqtwFmtCards.lean). -/
def LawS2115CDistinctFormAsk : Prop := lawS2115CDistinctRow.holds Ybaf.pinned (OpenSpec.ofChange lawS2115CDistinctSpec)

/-- ITS FALSE NEIGHBOUR: 'it returns false'. Refute it at one input. -/
def lawS2115CDistinctWrong : ChangeSpec := { name := "lawS2115CDistinct", fn := fun _ => fun
  | [d1, d2] => { results := [.lit (.bool false)], args := [d1, d2] }
  | _ => none }
def LawS2115CDistinctWrongFormAsk : Prop := lawS2115CDistinctRow.holds Ybaf.pinned (OpenSpec.ofChange lawS2115CDistinctWrong)

end Rows
end Go.Proofs.YbulkaqtwFmt

/-
  No cell of these rows narrows 'for every input' (looked for: loops, veiled, ifaces, maps, wideKeys, modest, calm, conditions, laid).
  DERIVED. THE GIVEN ROWS OF THIS SEAT. 3 by the template 'for every input the law returns true; each argument reads behind the call as it read before'; 0 by the template 'total and deterministic' (their statements: YbulkaqgyTotals.lean).
  GIVEN WITH THE SEED: the statements are not yours to turn. If you find one false, say at which input.
  Laid BY PROGRAM, IN A SANDBOX (cutbox-rows.mjs): the forced cells as the released guide's own fill.sh prints them over the translation 17d36fcb43eaa11a… (all of the seat's roots in one cut). By AI agents, Wed Nov 11 2026. No macro, syntax, notation, axiom, sorry.
-/
import Derived.Test.YbulkaqgyChecked
import GoSem.Claim
import GoSem.ClaimJoined
import GoSem.ClaimMapViews
import Derived.JoinedTies
import Derived.KernelRfl
namespace Go.Proofs.Ybulkaqgy
/- THE CELL 'sum', in the pinned program and in every row, IS THE sha256 OF THE DUMP (.gsa) THAT YbulkaqgyProg.lean LOADS. Nothing in Lean hashes anything: it is a label: what it is worth is what the hold of that sum in a sandbox is worth. -/
noncomputable def Yba.pinned : Pinned := { name := "ybulkaqgy", sum := "17d36fcb43eaa11a52e86d3e72cbe772db8ecef6ee5406ac4d5edbd59e10e665", checked := Yba.checked }
namespace Rows
def none {H : Type} : Left H := { results := [], args := [] }

/-- 'history.LawS2091ACsr': WHATEVER THE INPUT: true; the input reads as it did. -/
def lawS2091ACsrSpec : ChangeSpec := { name := "lawS2091ACsr", fn := fun _ => fun
  | [d1, d2] => { results := [.lit (.bool true)], args := [d1, d2] }
  | _ => none }
def lawS2091ACsrRow : OpenClaim := { program := "ybulkaqgy", sum := "17d36fcb43eaa11a52e86d3e72cbe772db8ecef6ee5406ac4d5edbd59e10e665", func := "example.com/serialis/serialis/history.LawS2091ACsr", spec := "lawS2091ACsr", apart := false }
def LawS2091ACsrSaid : Prop := lawS2091ACsrRow.holds Yba.pinned (OpenSpec.ofChange lawS2091ACsrSpec)

/-- ITS FALSE NEIGHBOUR: 'it returns false'. Refute it at one input. -/
def lawS2091ACsrWrong : ChangeSpec := { name := "lawS2091ACsr", fn := fun _ => fun
  | [d1, d2] => { results := [.lit (.bool false)], args := [d1, d2] }
  | _ => none }
def LawS2091ACsrWrongFalsely : Prop := lawS2091ACsrRow.holds Yba.pinned (OpenSpec.ofChange lawS2091ACsrWrong)

/-- 'record.LawS2091CUndoOrder': WHATEVER THE INPUT: true; the input reads as it did. -/
def lawS2091CUndoOrderSpec : ChangeSpec := { name := "lawS2091CUndoOrder", fn := fun _ => fun
  | [d1, d2, d3, d4] => { results := [.lit (.bool true)], args := [d1, d2, d3, d4] }
  | _ => none }
def lawS2091CUndoOrderRow : OpenClaim := { program := "ybulkaqgy", sum := "17d36fcb43eaa11a52e86d3e72cbe772db8ecef6ee5406ac4d5edbd59e10e665", func := "example.com/serialis/serialis/internal/record.LawS2091CUndoOrder", spec := "lawS2091CUndoOrder", apart := false }
def LawS2091CUndoOrderSaid : Prop := lawS2091CUndoOrderRow.holds Yba.pinned (OpenSpec.ofChange lawS2091CUndoOrderSpec)

/-- ITS FALSE NEIGHBOUR: 'it returns false'. Refute it at one input. -/
def lawS2091CUndoOrderWrong : ChangeSpec := { name := "lawS2091CUndoOrder", fn := fun _ => fun
  | [d1, d2, d3, d4] => { results := [.lit (.bool false)], args := [d1, d2, d3, d4] }
  | _ => none }
def LawS2091CUndoOrderWrongFalsely : Prop := lawS2091CUndoOrderRow.holds Yba.pinned (OpenSpec.ofChange lawS2091CUndoOrderWrong)

/-- 'record.LawS2091CRoundTrip': WHATEVER THE INPUT: true; the input reads as it did. -/
def lawS2091CRoundTripSpec : ChangeSpec := { name := "lawS2091CRoundTrip", fn := fun _ => fun
  | [d1, d2, d3, d4, d5] => { results := [.lit (.bool true)], args := [d1, d2, d3, d4, d5] }
  | _ => none }
def lawS2091CRoundTripRow : OpenClaim := { program := "ybulkaqgy", sum := "17d36fcb43eaa11a52e86d3e72cbe772db8ecef6ee5406ac4d5edbd59e10e665", func := "example.com/serialis/serialis/internal/record.LawS2091CRoundTrip", spec := "lawS2091CRoundTrip", unfollowed := true, recurses := true, apart := false }
def LawS2091CRoundTripSaid : Prop := lawS2091CRoundTripRow.holds Yba.pinned (OpenSpec.ofChange lawS2091CRoundTripSpec)

/-- ITS FALSE NEIGHBOUR: 'it returns false'. Refute it at one input. -/
def lawS2091CRoundTripWrong : ChangeSpec := { name := "lawS2091CRoundTrip", fn := fun _ => fun
  | [d1, d2, d3, d4, d5] => { results := [.lit (.bool false)], args := [d1, d2, d3, d4, d5] }
  | _ => none }
def LawS2091CRoundTripWrongFalsely : Prop := lawS2091CRoundTripRow.holds Yba.pinned (OpenSpec.ofChange lawS2091CRoundTripWrong)

end Rows
end Go.Proofs.Ybulkaqgy

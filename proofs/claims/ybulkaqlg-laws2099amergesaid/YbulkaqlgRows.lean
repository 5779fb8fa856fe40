/-
  No cell of these rows narrows 'for every input' (looked for: loops, veiled, ifaces, maps, wideKeys, modest, calm, conditions, laid).
  DERIVED. THE GIVEN ROWS OF THIS SEAT. 2 by the template 'for every input the law returns true; each argument reads behind the call as it read before'; 0 by the template 'total and deterministic' (their statements: YbulkaqlgTotals.lean).
  GIVEN WITH THE SEED: the statements are not yours to turn. If you find one false, say at which input.
  Laid BY PROGRAM, IN A SANDBOX (cutbox-rows.mjs): the forced cells as the released guide's own fill.sh prints them over the translation fde2aa490a5a6c68… (all of the seat's roots in one cut). By AI agents, Wed Nov 11 2026. No macro, syntax, notation, axiom, sorry.
-/
import Derived.Test.YbulkaqlgChecked
import GoSem.Claim
import GoSem.ClaimJoined
import GoSem.ClaimMapViews
import Derived.JoinedTies
import Derived.KernelRfl
namespace Go.Proofs.Ybulkaqlg
/- THE CELL 'sum', in the pinned program and in every row, IS THE sha256 OF THE DUMP (.gsa) THAT YbulkaqlgProg.lean LOADS. Nothing in Lean hashes anything: it is a label: what it is worth is what the hold of that sum in a sandbox is worth. -/
noncomputable def Yba.pinned : Pinned := { name := "ybulkaqlg", sum := "fde2aa490a5a6c685b736e6d6ea098617a3bceb6602fbaad97d52b9c9782940b", checked := Yba.checked }
namespace Rows
def none {H : Type} : Left H := { results := [], args := [] }

/-- 'curfew.LawS2099AMerge': WHATEVER THE INPUT: true; the input reads as it did. -/
def lawS2099AMergeSpec : ChangeSpec := { name := "lawS2099AMerge", fn := fun _ => fun
  | [d1, d2, d3] => { results := [.lit (.bool true)], args := [d1, d2, d3] }
  | _ => none }
def lawS2099AMergeRow : OpenClaim := { program := "ybulkaqlg", sum := "fde2aa490a5a6c685b736e6d6ea098617a3bceb6602fbaad97d52b9c9782940b", func := "curfew.example/curfew.LawS2099AMerge", spec := "lawS2099AMerge", recurses := true, apart := false }
def LawS2099AMergeSaid : Prop := lawS2099AMergeRow.holds Yba.pinned (OpenSpec.ofChange lawS2099AMergeSpec)

/-- ITS FALSE NEIGHBOUR: 'it returns false'. Refute it at one input. -/
def lawS2099AMergeWrong : ChangeSpec := { name := "lawS2099AMerge", fn := fun _ => fun
  | [d1, d2, d3] => { results := [.lit (.bool false)], args := [d1, d2, d3] }
  | _ => none }
def LawS2099AMergeWrongFalsely : Prop := lawS2099AMergeRow.holds Yba.pinned (OpenSpec.ofChange lawS2099AMergeWrong)

/-- 'curfew.LawS2099AInsert': WHATEVER THE INPUT: true; the input reads as it did. -/
def lawS2099AInsertSpec : ChangeSpec := { name := "lawS2099AInsert", fn := fun _ => fun
  | [d1, d2] => { results := [.lit (.bool true)], args := [d1, d2] }
  | _ => none }
def lawS2099AInsertRow : OpenClaim := { program := "ybulkaqlg", sum := "fde2aa490a5a6c685b736e6d6ea098617a3bceb6602fbaad97d52b9c9782940b", func := "curfew.example/curfew.LawS2099AInsert", spec := "lawS2099AInsert", recurses := true, apart := false }
def LawS2099AInsertSaid : Prop := lawS2099AInsertRow.holds Yba.pinned (OpenSpec.ofChange lawS2099AInsertSpec)

/-- ITS FALSE NEIGHBOUR: 'it returns false'. Refute it at one input. -/
def lawS2099AInsertWrong : ChangeSpec := { name := "lawS2099AInsert", fn := fun _ => fun
  | [d1, d2] => { results := [.lit (.bool false)], args := [d1, d2] }
  | _ => none }
def LawS2099AInsertWrongFalsely : Prop := lawS2099AInsertRow.holds Yba.pinned (OpenSpec.ofChange lawS2099AInsertWrong)

end Rows
end Go.Proofs.Ybulkaqlg

/-
  A new Recorder in memory; a slice of integers that came in; zzs2091cat walked.
-/
import Derived.Test.YbulkaqgyRecUndo
namespace Go.Proofs.Ybulkaqgy.Rec
open Go.RowKit Go.Deep
set_option linter.unusedVariables false

/-- a zero shard's cells -/
def shard0 : List Value := [.int .i32 0, .int .u32 0, .slice none 0 0, .int .i64 0, .int .u64 0, .bool false, .int .u8 0, .int .u8 0, .int .u8 0, .int .u8 0, .int .u8 0, .int .u8 0, .int .u8 0, .int .u8 0, .int .u8 0, .int .u8 0, .int .u8 0, .int .u8 0, .int .u8 0, .int .u8 0, .int .u8 0]
def shards0 : Nat → List Value
  | 0 => [.int .i32 0, .int .u32 0]
  | n + 1 => shard0 ++ shards0 n
/-- a new Recorder's cells -/
def recList (v : Value) : List Value := [.nilFunc, .bool false, .bool false, .nilIface, v] ++ shards0 64
def recCells (v : Value) : Array Value := (recList v).toArray

set_option maxRecDepth 100000 in
theorem build57 (v : Int) (w : World) : (Instr.build 57 #[(4, .int .i64 v)]).run Yba.prog w = .ok (.agg (recCells (.int .i64 v))) w := by kernel_rfl

theorem wpList_build57 (w : World) {ops : Array Oper} {rest : List Oper} {o : Oper} {a : Act} {Q : Exit → Act → World → Prop}
    (hg : o.guard = none) (x : Operand) (hop : o.op = Op.build 57 #[(4, x)]) (v : Int) (hv : a.eval x = .int .i64 v)
    (hK : wpList Yba.prog ops Q rest (a.put o.dst (.agg (recCells (.int .i64 v)))) w) :
    wpList Yba.prog ops Q (o :: rest) a w := by
  refine wpList_plain hg fun K hK' => ?_
  have hrun := build57 v w
  unfold Oper.wp
  simp only [execOp, hop, List.map_toArray, List.map_cons, List.map_nil, hv]
  simp only [Sem.run_bind, hrun, Result.andThen_ok, Sem.run_pure]
  exact hK' _ _ hK

set_option maxRecDepth 100000 in
theorem recCells_size (v : Value) : (recCells v).size = 1351 := by kernel_rfl

set_option maxRecDepth 100000 in
theorem recCells_tab (v : Value) (k : Int) (hk : K k) : (recCells v)[T k]? = some (.slice none 0 0) ∧ (recCells v)[T k + 1]? = some (.int .i64 0) := by
  rcases K_cases hk with h | h | h | h | h | h | h | h | h | h | h | h | h | h | h | h | h | h | h | h <;> subst h <;> exact ⟨by kernel_rfl, by kernel_rfl⟩

theorem Rec.new {br : Nat} {init : Int} {w : World} (h : w.heap[br]? = some (.cells (recCells (.int .i64 init)) 57 (0, 0))) : Rec br init (fun _ => none) (fun _ => 0) w := by
  have hat : ∀ j v, (recCells (.int .i64 init))[j]? = some v → (recCells (.int .i64 init)).getD j (.bool false) = v := fun j v h => by
    rw [Array.getD_eq_getD_getElem?, h]; rfl
  refine ⟨⟨fun j => (recCells (.int .i64 init)).getD j (.bool false), ⟨_, h, recCells_size _, fun i hi => ?_⟩, hat 0 _ (by kernel_rfl), hat 1 _ (by kernel_rfl), hat 3 _ (by kernel_rfl), hat 4 _ (by kernel_rfl), fun k hk => ?_⟩, (fun k g _ h => by cases h), (fun k k' _ _ h => absurd rfl h)⟩
  · have hs : i < (recCells (.int .i64 init)).size := by rw [recCells_size]; exact hi
    show _ = some ((recCells (.int .i64 init)).getD i (.bool false))
    rw [Array.getD_eq_getD_getElem?, Array.getElem?_eq_getElem hs]; rfl
  · obtain ⟨h0, h1⟩ := recCells_tab (.int .i64 init) k hk
    exact ⟨hat _ _ h0, hat _ _ h1⟩

/-- What a walk is told of a slice of integers. -/
def Ints (k : IntKind) (w : World) (a : Option Addr) (len : Nat) (Z : Nat → Int) : Prop :=
  len = 0 ∨ ∃ b off, a = some ⟨b, off, none⟩ ∧ b < w.heap.size ∧ ∀ i, i < len → w.cell? ⟨b, off + i, none⟩ = some (.int k (Z i))

theorem Ints.below {k : IntKind} {w w' : World} {a : Option Addr} {len : Nat} {Z : Nat → Int} (h : Ints k w a len Z) (hb : Below w.heap.size w w') : Ints k w' a len Z := by
  rcases h with h | ⟨b, off, e, hl, hc⟩
  · exact .inl h
  · exact .inr ⟨b, off, e, by have := hb.size; omega, fun i hi => (hb.cell (by exact hl)).trans (hc i hi)⟩

/-- xs[i], or 0 behind its end -/
def at0 (Z : Nat → Int) (len i : Nat) : Int := if i < len then Z i else 0

set_option maxHeartbeats 400000 in
theorem cat_any (a : Option Addr) (len cap t : Nat) (Z : Nat → Int) (w : World) (h : Ints .i64 w a len Z) (hl : len ≤ maxLen) (ht : t ≤ 4096) :
    Calls Yba.prog 7 #[.slice a len cap, .int .i64 (t : Int)] w fun e w' => e = .returned (.int .i64 (at0 Z len t)) ∧ w' = w := by
  unfold maxLen at hl
  by_cases htl : t < len
  · rcases h with h | ⟨b, off, rfl, hb, hc⟩
    · omega
    · have h1 := hc t htl
      have e : at0 Z len t = Z t := if_pos htl
      rw [e]
      clear hc e
      go_enter Yba.func7, Yba.ntmps7
      go_wp2
      go_ret
      exact ⟨rfl, rfl⟩
  · have e : at0 Z len t = 0 := if_neg htl
    rw [e]
    clear e h
    go_enter Yba.func7, Yba.ntmps7
    go_wp2
    go_ret
    exact ⟨rfl, rfl⟩
end Go.Proofs.Ybulkaqgy.Rec

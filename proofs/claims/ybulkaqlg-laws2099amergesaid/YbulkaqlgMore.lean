/-
  append of a row within the capacity, Equal over rows.
-/
import Derived.Test.YbulkaqlgPrep
import Derived.Test.YbulkaqlgNames
namespace Go.Proofs.Ybulkaqlg
open Go.RowKit Go.Shelf Go.Lib Go.Sort
set_option linter.unusedVariables false
set_option linter.unusedSimpArgs false

theorem run_app {w : World} (ty : TypeId) (g k cap : Nat) (D : List Str) (hg : Row w g D) (hD : D.length = cap) (sp : Option Addr) (n c : Nat) (cs : List Str) (hcs : cs.length = n)
    (hpos : 0 < n → ∃ sb, sp = some ⟨sb, 0, none⟩ ∧ Reads w sb 0 cs) (hroom : k + n ≤ cap) (B : Nat) (w0 : World) (hb : Below B w0 w) (hBg : B ≤ g) :
    ∃ w', (Builtin.append_ #[22, 22] ty #[.slice (some ⟨g, 0, none⟩) k cap, .slice sp n c]).run Yba.prog w = .ok (.slice (some ⟨g, 0, none⟩) (k + n) cap) w' ∧ Row w' g (splice D k cs) ∧ Below B w0 w' := by
  obtain ⟨i, hi, hz, hsz, hby⟩ := info9
  have key : ∀ ad : Addr, (∀ j v, (cs.map encStr)[j]? = some v → w.cell? (ad.add j) = some v) → ∃ w', (Builtin.append_ #[22, 22] ty #[.slice (some ⟨g, 0, none⟩) k cap, .slice (some ad) n c]).run Yba.prog w = .ok (.slice (some ⟨g, 0, none⟩) (k + n) cap) w' ∧ Row w' g (splice D k cs) ∧ Below B w0 w' := by
    intro ad hsrc
    have hr := run_append_room (P := Yba.prog) w 22 ty 9 i Yba.underlying22 hi g k cap (D.map encStr).toArray hg ad n c (cs.map encStr) (by simp [hsz, hcs]) hsrc (one_enc cs) hroom (by simp [hsz, hcs]; omega)
    refine ⟨_, hr, ?_, below_setRow hb hBg _⟩
    unfold Row
    rw [← splice_map, setRow_heap w g _ _ 9 _ hg]
    simp [splice, hsz]
  rcases Nat.eq_zero_or_pos n with h0 | hp
  · subst h0
    obtain rfl : cs = [] := List.eq_nil_of_length_eq_zero hcs
    cases sp with
    | some ad => exact key ad (fun j v h => by simp at h)
    | none =>
      refine ⟨w, ?_, by simpa [splice] using hg, hb⟩
      simp [Builtin.append_, run_underlying Yba.underlying22, sizeOf, typeInfo, hi, Builtin.lenOf, Builtin.firstCells, loadCells, loadCellsFrom, hroom, show k ≤ cap by omega, storeCells]
  · obtain ⟨sb, rfl, hr⟩ := hpos hp
    exact key _ (src_enc hr)

theorem app_row {ops : Array Oper} {rest : List Oper} {o : Oper} {a : Act} {w : World} {Q : Exit → Act → World → Prop} (hgd : o.guard = none) (s x : Operand)
    (ho : o.op = .call { callee := .builtin .append, args := #[s, x], argTypes := #[22, 22] })
    (g k cap : Nat) (D : List Str) (hs : a.eval s = .slice (some ⟨g, 0, none⟩) k cap) (hg : Row w g D) (hD : D.length = cap) (sp : Option Addr) (n c : Nat) (hx : a.eval x = .slice sp n c) (cs : List Str) (hcs : cs.length = n)
    (hpos : 0 < n → ∃ sb, sp = some ⟨sb, 0, none⟩ ∧ Reads w sb 0 cs) (hroom : k + n ≤ cap) (B : Nat) (w0 : World) (hb : Below B w0 w) (hBg : B ≤ g)
    (h : ∀ w', Hid (Row w' g (splice D k cs)) → Hid (Below B w0 w') → wpList Yba.prog ops Q rest (a.put o.dst (.slice (some ⟨g, 0, none⟩) (k + n) cap)) w') :
    wpList Yba.prog ops Q (o :: rest) a w := by
  obtain ⟨w', hr, h1, h2⟩ := run_app (w := w) o.type g k cap D hg hD sp n c cs hcs hpos hroom B w0 hb hBg
  refine wpList_plain hgd fun K hK => ?_
  unfold Oper.wp
  simp [execOp, ho, resolve, invoke, builtin, hs, hx, hr, Result.andThen]
  exact hK _ _ (h w' h1 h2)

theorem mk_row0 (a b : Nat) (hc : a + b ≤ 4096) (w : World) : ∃ w1, (Instr.makeSlice 22 (.int .i64 0) (.int .i64 ((a : Int) + (b : Int)))).run Yba.prog w = .ok (.slice (some ⟨w.heap.size, 0, none⟩) 0 (a + b)) w1 ∧
    Hid (Row w1 w.heap.size (List.replicate (a + b) [])) ∧ Hid (Below w.heap.size w w1) ∧ Hid (w1.heap.size = w.heap.size + 1) := by
  have h := mk_row 0 (a + b) (Nat.zero_le _) hc w
  rw [Int.natCast_add] at h
  exact h
theorem mk_row2 (a b : Nat) (hc : a + b ≤ 4096) (w : World) : ∃ w1, (Instr.makeSlice 22 (.int .i64 ((a : Int) + (b : Int))) (.int .i64 ((a : Int) + (b : Int)))).run Yba.prog w = .ok (.slice (some ⟨w.heap.size, 0, none⟩) (a + b) (a + b)) w1 ∧
    Hid (Row w1 w.heap.size (List.replicate (a + b) [])) ∧ Hid (Below w.heap.size w w1) ∧ Hid (w1.heap.size = w.heap.size + 1) := by
  have h := mk_row (a + b) (a + b) (Nat.le_refl _) hc w
  rw [Int.natCast_add] at h
  exact h

theorem equalRow (b1 n c b2 c2 : Nat) (D1 D2 : List Str) (w : World) (h1 : Row w b1 D1) (h2 : Row w b2 D2) (hn1 : n ≤ D1.length) (hn2 : n ≤ D2.length) (he : D1.take n = D2.take n) (hn : n ≤ 4096) :
    Calls Yba.prog 8 #[.slice (some ⟨b1, 0, none⟩) n c, .slice (some ⟨b2, 0, none⟩) n c2] w fun e w' => e = .returned (.bool true) ∧ ∃ q, w' = w.drewN q := by
  refine (Any.slices_Equal_string Yba.lays193 b1 0 n c b2 0 n c2 (D1.map fun l => ⟨l.toArray⟩) (D2.map fun l => ⟨l.toArray⟩) w (by simpa using hn1) (by simpa using hn2) (by omega) (by omega) (fun j hj => ?_) (fun j hj => ?_)).mono ?_
  · simp at hj
    rw [h1.cell (0 + j) (by omega)]
    simp [List.getD, hj]
  · simp at hj
    rw [h2.cell (0 + j) (by omega)]
    simp [List.getD, hj]
  · rintro e w' ⟨rfl, q, rfl⟩
    refine ⟨?_, q, rfl⟩
    rw [← List.map_take, ← List.map_take, he]
    simp

theorem splice_fill (n m : Nat) (X C : List Str) (hX : X.length = n) (hC : C.length = m) : splice (splice (List.replicate (n + m) ([] : Str)) 0 X) n C = X ++ C := by
  subst hX; subst hC
  unfold splice
  simp
theorem splice_head (n m : Nat) (X : List Str) (hX : X.length = n) : splice (List.replicate (n + m) ([] : Str)) 0 X = X ++ List.replicate m [] := by
  subst hX
  unfold splice
  simp
end Go.Proofs.Ybulkaqlg

/-
  LawS2099AInsert: the row's step and the statement.
-/
import Derived.Test.YbulkaqlgRows
import Derived.Test.YbulkaqlgInsWalk
import Derived.Test.YbulkaqlgOpen
namespace Go.Proofs.Ybulkaqlg.lawS2099AInsert
open Go.ChangeShapes Go.WideShapes Go.ChangeAt Go.RowKit
set_option linter.unusedVariables false

set_option maxRecDepth 100000 in
theorem walk_all (an ac : Option Addr) (n cn m cm : Nat) (X C : List Str) (w : World) (hX : X.length = n) (hC : C.length = m) (hn : n ≤ maxLen) (hm : m ≤ maxLen)
    (rX : 0 < n → ∃ b o, an = some ⟨b, o, none⟩ ∧ b < w.heap.size ∧ Reads w b o X) (rC : 0 < m → ∃ b o, ac = some ⟨b, o, none⟩ ∧ b < w.heap.size ∧ Reads w b o C) :
    Calls Yba.prog 4 #[.slice an n cn, .slice ac m cm] w fun e w' => e = .returned (.bool true) ∧ Below w.heap.size w w' := by
  unfold maxLen at hn hm
  by_cases h1 : n ≤ 1024
  · by_cases h2 : m ≤ 1024
    · exact insert_main an ac n cn m cm X C w hX hC h1 h2 rX rC
    · clear rX rC
      have e1 : ¬ (1024 : Int) < (n : Int) := by omega
      have e2 : (1024 : Int) < (m : Int) := by omega
      go_enter Yba.func4, Yba.ntmps4
      go_wp2
      go_ret
      exact ⟨rfl, Below.refl _ _⟩
  · clear rX rC
    have e1 : (1024 : Int) < (n : Int) := by omega
    go_enter Yba.func4, Yba.ntmps4
    go_wp2
    go_ret
    exact ⟨rfl, Below.refl _ _⟩

set_option maxRecDepth 100000 in
theorem lifted (os : Os) (started : os.Started) (H : Type) (enc : TypeId × Value → H) :
    ReturnsInHanded {} Yba.checked os 4 .any (Rows.lawS2099AInsertSpec.pre6 enc Yba.prog Yba.f4 Rows.lawS2099AInsertRow.domain false) (Rows.lawS2099AInsertSpec.post enc Yba.prog Yba.f4 false true false false) := by
  refine returnsInHanded_of_change (C := Yba.checked) own started (by kernel_rfl) Yba.func4
    (ChangeSpec.witness6 (enc := enc) (C := Yba.checked) false ⟨#[], #[.slice none 0 0, .slice none 0 0], []⟩ 8 (by kernel_rfl) (by kernel_rfl) (by kernel_rfl) (by kernel_rfl)) ?_
  intro W base args ds gs before hval0 hW hcnd _
  have hval : ∀ (j : Nat) t v, Yba.f4.params[j]? = some t → args[j]? = some v → Value.okWide Yba.prog W .any base t v := hval0
  have hW' := hW
  obtain ⟨p, q, hA0, hV, rfl, hfz, hnd⟩ := hW
  have hA : DataW.TrodAll enc Yba.prog W 0 (fun _ => true) true Yba.f4.params.toList args.toList ds p := hA0
  rw [Yba.params4] at hA hval
  obtain ⟨v0, vs0, d0, ds0, p0, q0, hargs, rfl, rfl, h0, r0⟩ := trodAll_cons hA
  obtain ⟨v1, vs1, d1, ds1, p1, q1, rfl, rfl, rfl, h1, r1⟩ := trodAll_cons r0
  obtain ⟨rfl, rfl, rfl⟩ := trodAll_nil r1
  obtain rfl : args = #[v0, v1] := by cases args; simp_all
  obtain ⟨rfl, rfl⟩ := trodVars_none hV
  obtain ⟨a0, n0, c0, rfl⟩ := okWide_slice Yba.underlying22 (hval 0 22 v0 rfl rfl)
  obtain ⟨a1, n1, c1, rfl⟩ := okWide_slice Yba.underlying22 (hval 1 22 v1 rfl rfl)
  have k0 := h0
  have k1 := h1
  have lt0 : ∀ x ∈ p0, x.block < W.heap.size := by obtain ⟨m, hm⟩ := k0; exact DataW.trod_lt m _ _ _ hm
  have lt1 : ∀ x ∈ p1, x.block < W.heap.size := by obtain ⟨m, hm⟩ := k1; exact DataW.trod_lt m _ _ _ hm
  obtain ⟨f0, g0⟩ := h0
  obtain ⟨f1, g1⟩ := h1
  simp only [Value.cells] at g0 g1
  obtain ⟨X, hX, hXm, rX⟩ := opened g0
  obtain ⟨C, hC, hCm, rC⟩ := opened g1
  clear hA0 hval0
  refine (walk_all a0 a1 n0 c0 n1 c1 X C W hX hC hXm hCm rX rC).mono fun e W' ⟨he, bel⟩ => ?_
  subst he
  exact ⟨_, rfl, _, _, _, [], _, [], hW', trodAll_mk1 (shut_bool Yba.underlying4 _), (trodAll_cons_mk (Below.trod laidOut (by kernel_rfl) (of_decide_eq_true (by kernel_rfl)) k0 bel lt0) (trodAll_cons_mk (Below.trod laidOut (by kernel_rfl) (of_decide_eq_true (by kernel_rfl)) k1 bel lt1) trodAll_mk0)), rfl, bel.frame _, fun h => by cases h⟩

theorem over : Rows.lawS2099AInsertRow.holds Yba.pinned (OpenSpec.ofChange Rows.lawS2099AInsertSpec) :=
  OpenClaim.holds_of_wide 4 Yba.f4 rfl rfl rfl rfl rfl rfl rfl ⟨rfl, rfl, rfl, rfl, rfl⟩ rfl rfl rfl rfl rfl (by kernel_rfl) Yba.func4 (by kernel_rfl)
    (of_decide_eq_true (by kernel_rfl)) (by unfold Func.isWrapper; first | (rw [if_pos (by decide +kernel)]; kernel_rfl) | (rw [if_neg (by decide +kernel)]; exact ⟨rfl, rfl⟩))
    (fun os started H enc _ => lifted os started H enc)

end Go.Proofs.Ybulkaqlg.lawS2099AInsert

namespace Go.Proofs.Ybulkaqlg
/-- THE STATEMENT. -/
theorem lawS2099AInsert_proved : Rows.LawS2099AInsertSaid := lawS2099AInsert.over
end Go.Proofs.Ybulkaqlg

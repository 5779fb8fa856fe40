/-
  LawS2099AMerge: the row's step and the statement.
-/
import Derived.Test.YbulkaqlgRows
import Derived.Test.YbulkaqlgMrgWalk
import Derived.Test.YbulkaqlgOpen
namespace Go.Proofs.Ybulkaqlg.lawS2099AMerge
open Go.ChangeShapes Go.WideShapes Go.ChangeAt Go.RowKit
set_option linter.unusedVariables false

set_option maxRecDepth 100000 in
theorem walk_all (an az ac : Option Addr) (n cn ns cs m cm : Nat) (X C : List Str) (S : Nat → Bool) (w : World) (hX : X.length = n) (hC : C.length = m) (hn : n ≤ maxLen) (hns : ns ≤ maxLen) (hm : m ≤ maxLen)
    (rX : 0 < n → ∃ b o, an = some ⟨b, o, none⟩ ∧ b < w.heap.size ∧ Reads w b o X) (rC : 0 < m → ∃ b o, ac = some ⟨b, o, none⟩ ∧ b < w.heap.size ∧ Reads w b o C)
    (rS : 0 < ns → ∃ b o, az = some ⟨b, o, none⟩ ∧ b < w.heap.size ∧ ∀ j, j < ns → w.cell? ⟨b, o + j, none⟩ = some (.bool (S j))) :
    Calls Yba.prog 3 #[.slice an n cn, .slice az ns cs, .slice ac m cm] w fun e w' => e = .returned (.bool true) ∧ Below w.heap.size w w' := by
  unfold maxLen at hn hm hns
  by_cases h1 : n ≤ 1024
  · by_cases h2 : m ≤ 1024
    · by_cases h3 : ns ≤ 1024
      · exact merge_main an az ac n cn ns cs m cm X C S w hX hC h1 h3 h2 rX rC rS
      · clear rX rC rS
        have e1 : ¬ (1024 : Int) < (n : Int) := by omega
        have e2 : ¬ (1024 : Int) < (m : Int) := by omega
        have e3 : (1024 : Int) < (ns : Int) := by omega
        go_enter Yba.func3, Yba.ntmps3
        go_wp2
        go_ret
        exact ⟨rfl, Below.refl _ _⟩
    · clear rX rC rS
      have e1 : ¬ (1024 : Int) < (n : Int) := by omega
      have e2 : (1024 : Int) < (m : Int) := by omega
      go_enter Yba.func3, Yba.ntmps3
      go_wp2
      go_ret
      exact ⟨rfl, Below.refl _ _⟩
  · clear rX rC rS
    have e1 : (1024 : Int) < (n : Int) := by omega
    go_enter Yba.func3, Yba.ntmps3
    go_wp2
    go_ret
    exact ⟨rfl, Below.refl _ _⟩

set_option maxRecDepth 100000 in
theorem lifted (os : Os) (started : os.Started) (H : Type) (enc : TypeId × Value → H) :
    ReturnsInHanded {} Yba.checked os 3 .any (Rows.lawS2099AMergeSpec.pre6 enc Yba.prog Yba.f3 Rows.lawS2099AMergeRow.domain false) (Rows.lawS2099AMergeSpec.post enc Yba.prog Yba.f3 false true false false) := by
  refine returnsInHanded_of_change (C := Yba.checked) own started (by kernel_rfl) Yba.func3
    (ChangeSpec.witness6 (enc := enc) (C := Yba.checked) false ⟨#[], #[.slice none 0 0, .slice none 0 0, .slice none 0 0], []⟩ 8 (by kernel_rfl) (by kernel_rfl) (by kernel_rfl) (by kernel_rfl)) ?_
  intro W base args ds gs before hval0 hW hcnd _
  have hval : ∀ (j : Nat) t v, Yba.f3.params[j]? = some t → args[j]? = some v → Value.okWide Yba.prog W .any base t v := hval0
  have hW' := hW
  obtain ⟨p, q, hA0, hV, rfl, hfz, hnd⟩ := hW
  have hA : DataW.TrodAll enc Yba.prog W 0 (fun _ => true) true Yba.f3.params.toList args.toList ds p := hA0
  rw [Yba.params3] at hA hval
  obtain ⟨v0, vs0, d0, ds0, p0, q0, hargs, rfl, rfl, h0, r0⟩ := trodAll_cons hA
  obtain ⟨v1, vs1, d1, ds1, p1, q1, rfl, rfl, rfl, h1, r1⟩ := trodAll_cons r0
  obtain ⟨v2, vs2, d2, ds2, p2, q2, rfl, rfl, rfl, h2, r2⟩ := trodAll_cons r1
  obtain ⟨rfl, rfl, rfl⟩ := trodAll_nil r2
  obtain rfl : args = #[v0, v1, v2] := by cases args; simp_all
  obtain ⟨rfl, rfl⟩ := trodVars_none hV
  obtain ⟨a0, n0, c0, rfl⟩ := okWide_slice Yba.underlying22 (hval 0 22 v0 rfl rfl)
  obtain ⟨a1, n1, c1, rfl⟩ := okWide_slice Yba.underlying23 (hval 1 23 v1 rfl rfl)
  obtain ⟨a2, n2, c2, rfl⟩ := okWide_slice Yba.underlying22 (hval 2 22 v2 rfl rfl)
  have k0 := h0
  have k1 := h1
  have k2 := h2
  have lt0 : ∀ x ∈ p0, x.block < W.heap.size := by obtain ⟨m, hm⟩ := k0; exact DataW.trod_lt m _ _ _ hm
  have lt1 : ∀ x ∈ p1, x.block < W.heap.size := by obtain ⟨m, hm⟩ := k1; exact DataW.trod_lt m _ _ _ hm
  have lt2 : ∀ x ∈ p2, x.block < W.heap.size := by obtain ⟨m, hm⟩ := k2; exact DataW.trod_lt m _ _ _ hm
  obtain ⟨f0, g0⟩ := h0
  obtain ⟨f1, g1⟩ := h1
  obtain ⟨f2, g2⟩ := h2
  simp only [Value.cells] at g0 g1 g2
  obtain ⟨X, hX, hXm, rX⟩ := opened g0
  obtain ⟨S, hSm, rS⟩ := openedB g1
  obtain ⟨C, hC, hCm, rC⟩ := opened g2
  clear hA0 hval0
  refine (walk_all a0 a1 a2 n0 c0 n1 c1 n2 c2 X C S W hX hC hXm hSm hCm rX rC rS).mono fun e W' ⟨he, bel⟩ => ?_
  subst he
  exact ⟨_, rfl, _, _, _, [], _, [], hW', trodAll_mk1 (shut_bool Yba.underlying4 _), (trodAll_cons_mk (Below.trod laidOut (by kernel_rfl) (of_decide_eq_true (by kernel_rfl)) k0 bel lt0) (trodAll_cons_mk (Below.trod laidOut (by kernel_rfl) (of_decide_eq_true (by kernel_rfl)) k1 bel lt1) (trodAll_cons_mk (Below.trod laidOut (by kernel_rfl) (of_decide_eq_true (by kernel_rfl)) k2 bel lt2) trodAll_mk0))), rfl, bel.frame _, fun h => by cases h⟩

theorem over : Rows.lawS2099AMergeRow.holds Yba.pinned (OpenSpec.ofChange Rows.lawS2099AMergeSpec) :=
  OpenClaim.holds_of_wide 3 Yba.f3 rfl rfl rfl rfl rfl rfl rfl ⟨rfl, rfl, rfl, rfl, rfl⟩ rfl rfl rfl rfl rfl (by kernel_rfl) Yba.func3 (by kernel_rfl)
    (of_decide_eq_true (by kernel_rfl)) (by unfold Func.isWrapper; first | (rw [if_pos (by decide +kernel)]; kernel_rfl) | (rw [if_neg (by decide +kernel)]; exact ⟨rfl, rfl⟩))
    (fun os started H enc _ => lifted os started H enc)

end Go.Proofs.Ybulkaqlg.lawS2099AMerge

namespace Go.Proofs.Ybulkaqlg
/-- THE STATEMENT. -/
theorem lawS2099AMerge_proved : Rows.LawS2099AMergeSaid := lawS2099AMerge.over
end Go.Proofs.Ybulkaqlg

/-
  history.LawS2091ACsr: the row's step and the statement.
-/
import Derived.Test.YbulkaqgyRows
import Derived.Test.YbulkaqgyCsrWalk
import Derived.ProofKit
import Derived.OpenShut
import Derived.ChangeOld
import Derived.Below
import Derived.Deep.SlicePairs
namespace Go.Proofs.Ybulkaqgy.lawS2091ACsr
open Go.ChangeShapes Go.WideShapes Go.ChangeAt Go.RowKit Go.Deep
set_option linter.unusedVariables false

theorem own : ownKnob Yba.prog.godebug = none := by kernel_rfl
theorem laidOut : laidOutB Yba.prog = true := by kernel_rfl

set_option maxRecDepth 100000 in
theorem lifted (os : Os) (started : os.Started) (H : Type) (enc : TypeId × Value → H) :
    ReturnsInHanded {} Yba.checked os 3 .any (Rows.lawS2091ACsrSpec.pre6 enc Yba.prog Yba.f3 Rows.lawS2091ACsrRow.domain false) (Rows.lawS2091ACsrSpec.post enc Yba.prog Yba.f3 false true false false) := by
  refine returnsInHanded_of_change (C := Yba.checked) own started (by kernel_rfl) Yba.func3
    (ChangeSpec.witness6 (enc := enc) (C := Yba.checked) false ⟨#[], #[.int .u8 0, .slice none 0 0], []⟩ 8 (by kernel_rfl) (by kernel_rfl) (by kernel_rfl) (by kernel_rfl)) ?_
  intro W base args ds gs before hval0 hW hcnd _
  have hval : ∀ (j : Nat) t v, Yba.f3.params[j]? = some t → args[j]? = some v → Value.okWide Yba.prog W .any base t v := hval0
  have hW' := hW
  obtain ⟨p, q, hA0, hV, rfl, hfz, hnd⟩ := hW
  have hA : DataW.TrodAll enc Yba.prog W 0 (fun _ => true) true Yba.f3.params.toList args.toList ds p := hA0
  rw [Yba.params3] at hA hval
  obtain ⟨v0, vs0, d0, ds0, p0, q0, hargs, rfl, rfl, h0, r0⟩ := trodAll_cons hA
  obtain ⟨v1, vs1, d1, ds1, p1, q1, rfl, rfl, rfl, h1, r1⟩ := trodAll_cons r0
  obtain ⟨rfl, rfl, rfl⟩ := trodAll_nil r1
  obtain rfl : args = #[v0, v1] := by cases args; simp_all
  obtain ⟨rfl, rfl⟩ := trodVars_none hV
  obtain ⟨c, rfl, rfl, rfl, wc⟩ := open_int Yba.underlying5 (hval 0 5 v0 rfl rfl) h0
  obtain ⟨a, len, cap, rfl⟩ := okWide_slice Yba.underlying22 (hval 1 22 v1 rfl rfl)
  have k1 := h1
  have lt1 : ∀ x ∈ p1, x.block < W.heap.size := by obtain ⟨m, hm⟩ := k1; exact DataW.trod_lt m _ _ _ hm
  obtain ⟨F, T, hl, hE⟩ : ∃ F T, len ≤ maxLen ∧ Csr.IsEdges W a len F T := by
    obtain ⟨fuel, hf⟩ := h1
    rcases open_slice_pairs Yba.underlying22 Yba.underlying26 (by kernel_rfl) rfl rfl (by kernel_rfl) (by kernel_rfl) hf with ⟨hcs, _⟩ | ⟨x, l, cp, m, n, V0, V1, D0, D1, P0, P1, hcs, _, hl, hm, hmm, _, hx⟩
    · simp [Value.cells] at hcs
      obtain ⟨rfl, rfl, rfl⟩ := hcs
      exact ⟨fun _ => 0, fun _ => 0, Nat.zero_le _, .inl rfl⟩
    · simp [Value.cells] at hcs
      obtain ⟨rfl, rfl, rfl⟩ := hcs
      have hlm : len ≤ m := by rw [hmm]; split <;> omega
      refine ⟨fun i => intOf (V0 i), fun i => intOf (V1 i), by omega, ?_⟩
      rcases Nat.eq_zero_or_pos len with h0 | hpos
      · exact .inl h0
      · right
        obtain ⟨b, off, sp⟩ := x
        have hfirst := (hx 0 (by omega)).1
        have hsp : sp = none := by
          cases sp with
          | none => rfl
          | some z => simp [Addr.add, World.cell?] at hfirst; split at hfirst <;> simp at hfirst
        subst hsp
        refine ⟨b, off, rfl, ?_, fun i hi => ?_⟩
        · have := World.block_lt_of_cell? _ _ hfirst
          simpa [Addr.add] using this
        · obtain ⟨e0, e1, g0, g1⟩ := hx i (by omega)
          obtain ⟨z0, hv0, _, wz0⟩ := DataW.trod_int Yba.underlying24 g0
          obtain ⟨z1, hv1, _, wz1⟩ := DataW.trod_int Yba.underlying3 g1
          simp at hv0 hv1
          rw [Addr.add_lit] at e0 e1
          have hb := bounds_u64 wz0
          show W.cell? ⟨b, off + i * 2, none⟩ = some (.int .u64 (intOf (V0 i))) ∧ W.cell? ⟨b, off + i * 2 + 1, none⟩ = some (.int .i64 (intOf (V1 i))) ∧ 0 ≤ intOf (V0 i) ∧ intOf (V0 i) ≤ 18446744073709551615
          rw [hv0] at e0 ⊢
          rw [hv1] at e1 ⊢
          exact ⟨e0, by rw [Nat.add_assoc]; exact e1, by simpa [intOf] using hb.1, by simpa [intOf] using hb.2⟩
  have hc := bounds_u8 wc
  clear hA0 hval0
  refine (Csr.walk_all c a len cap F T W hc.1 hc.2 hl hE).mono fun e W' ⟨he, bel⟩ => ?_
  subst he
  exact ⟨_, rfl, _, _, _, [], _, [], hW', trodAll_mk1 (shut_bool Yba.underlying4 _), (trodAll_cons_mk (shut_int Yba.underlying5 wc) (trodAll_cons_mk (Below.trod laidOut (by kernel_rfl) (of_decide_eq_true (by kernel_rfl)) k1 bel lt1) trodAll_mk0)), rfl, bel.frame _, fun h => by cases h⟩

theorem over : Rows.lawS2091ACsrRow.holds Yba.pinned (OpenSpec.ofChange Rows.lawS2091ACsrSpec) :=
  OpenClaim.holds_of_wide 3 Yba.f3 rfl rfl rfl rfl rfl rfl rfl ⟨rfl, rfl, rfl, rfl, rfl⟩ rfl rfl rfl rfl rfl (by kernel_rfl) Yba.func3 (by kernel_rfl)
    (of_decide_eq_true (by kernel_rfl)) (by unfold Func.isWrapper; first | (rw [if_pos (by decide +kernel)]; kernel_rfl) | (rw [if_neg (by decide +kernel)]; exact ⟨rfl, rfl⟩))
    (fun os started H enc _ => lifted os started H enc)

end Go.Proofs.Ybulkaqgy.lawS2091ACsr

namespace Go.Proofs.Ybulkaqgy
/-- THE STATEMENT. -/
theorem lawS2091ACsr_proved : Rows.LawS2091ACsrSaid := lawS2091ACsr.over
end Go.Proofs.Ybulkaqgy

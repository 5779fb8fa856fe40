/-
  A slice of strings, a slice of bools among the arguments: what is read of it.
-/
import Derived.Test.YbulkaqlgMore
import Derived.ProofKit
import Derived.OpenShut
import Derived.ChangeOld
import Derived.Below
import Derived.SliceStrings
import Derived.Deep.Grids
namespace Go.Proofs.Ybulkaqlg
open Go.ChangeShapes Go.WideShapes Go.ChangeAt Go.RowKit
set_option linter.unusedVariables false

theorem own : ownKnob Yba.prog.godebug = none := by kernel_rfl
theorem laidOut : laidOutB Yba.prog = true := by kernel_rfl

theorem plain_addr {W : World} {x : Addr} {v : Value} (h : W.cell? (x.add 0) = some v) : ∃ b o, x = ⟨b, o, none⟩ ∧ b < W.heap.size := by
  obtain ⟨b, off, sp⟩ := x
  have hsp : sp = none := by
    cases sp with
    | none => rfl
    | some z => simp [Addr.add, World.cell?] at h; split at h <;> simp at h
  subst hsp
  refine ⟨b, off, rfl, ?_⟩
  have := World.block_lt_of_cell? _ _ h
  simpa [Addr.add] using this

theorem add_plain (b o j : Nat) : (⟨b, o, none⟩ : Addr).add j = ⟨b, o + j, none⟩ := by unfold Addr.add; split <;> simp_all

theorem opened {H : Type} {enc : TypeId × Value → H} {W : World} {base fuel : Nat} {held : Bool} {a : Option Addr} {len cap : Nat} {x : DataW H × List MemPlace}
    (h : DataW.trod enc Yba.prog W base (fun _ => true) held fuel 22 [.slice a len cap] = some x) :
    ∃ X : List Str, X.length = len ∧ len ≤ maxLen ∧ (0 < len → ∃ b o, a = some ⟨b, o, none⟩ ∧ b < W.heap.size ∧ Reads W b o X) := by
  rcases open_strings Yba.underlying22 Yba.underlying9 (by kernel_rfl) h with ⟨hcs, _⟩ | ⟨ad, l, cp, ss, hcs, _, hl, hm, hz, _, hcell, _⟩
  · simp at hcs
    obtain ⟨rfl, rfl, rfl⟩ := hcs
    exact ⟨[], rfl, Nat.zero_le _, fun h => by simp at h⟩
  · simp at hcs
    obtain ⟨rfl, rfl, rfl⟩ := hcs
    simp only [if_true] at hz
    refine ⟨(ss.take len).map fun s => s.data.toList, by simp; omega, by omega, fun hp => ?_⟩
    obtain ⟨b, o, rfl, hb⟩ := plain_addr (hcell 0 (by omega))
    refine ⟨b, o, rfl, hb, fun j hj => ?_⟩
    simp at hj
    have := hcell j (by omega)
    rw [add_plain] at this
    rw [this]
    have hg : ss.getD j ByteArray.empty = ss[j]'(by omega) := by simp [List.getD, show j < ss.length by omega]
    rw [hg]
    simp only [List.getElem_map, List.getElem_take, encStr]

theorem openedB {H : Type} {enc : TypeId × Value → H} {W : World} {base fuel : Nat} {held : Bool} {a : Option Addr} {len cap : Nat} {x : DataW H × List MemPlace}
    (h : DataW.trod enc Yba.prog W base (fun _ => true) held fuel 23 [.slice a len cap] = some x) :
    ∃ S : Nat → Bool, len ≤ maxLen ∧ (0 < len → ∃ b o, a = some ⟨b, o, none⟩ ∧ b < W.heap.size ∧ ∀ j, j < len → W.cell? ⟨b, o + j, none⟩ = some (.bool (S j))) := by
  rcases Go.Deep.open_bools Yba.underlying23 Yba.underlying4 (by kernel_rfl) h with ⟨hcs, _⟩ | ⟨ad, l, cp, S, hcs, _, hl, hm, _, hcell⟩
  · simp at hcs
    obtain ⟨rfl, rfl, rfl⟩ := hcs
    exact ⟨fun _ => false, Nat.zero_le _, fun h => by simp at h⟩
  · simp at hcs
    obtain ⟨rfl, rfl, rfl⟩ := hcs
    refine ⟨S, by omega, fun hp => ?_⟩
    obtain ⟨b, o, rfl, hb⟩ := plain_addr (hcell 0 (by omega))
    refine ⟨b, o, rfl, hb, fun j hj => ?_⟩
    rw [← add_plain]
    exact hcell j (by omega)
end Go.Proofs.Ybulkaqlg

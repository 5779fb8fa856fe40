/-
  A region that draws its order, whose LAST operation overwrites a cell that an earlier load of the region reads (x.f = append(x.f, ..)): what is held of the world (S) need not be shown behind that last operation, if it waits for whatever is taken first.
-/
import Derived.OrdersHeld
import Derived.StillTail
import Derived.Deep.RegionHeld3
namespace Go.Proofs.Ybulkaqgy
open Go

section
variable {P : Program} {ops : Array Oper} {Q : Exit → Act → World → Prop} {md : Region.Mode} {S : World → Prop} {L : Nat}

/-- Whatever order the edges allow; S is shown anew behind every operation but number L. -/
def wpAnyX (P : Program) (md : Region.Mode) (ops : Array Oper) (Q : Exit → Act → World → Prop) (S : World → Prop) (L : Nat) : Nat → Array Bool → Act → World → Prop
  | 0, listed, a, w => Region.ready md ops listed = [] ∧ Q .normal a w
  | f + 1, listed, a, w => (Region.ready md ops listed = [] → Q .normal a w) ∧
      ∀ i, i ∈ Region.ready md ops listed → wpOp P ops Q i (fun a' w' => (i = L ∨ S w') ∧ wpAnyX P md ops Q S L f (listed.setIfInBounds i true) a' w') a w

theorem wpAnyX_any : ∀ (f : Nat) (listed : Array Bool) (a : Act) (w : World), wpAnyX P md ops Q S L f listed a w → wpAny P md ops Q f listed a w := by
  intro f
  induction f with
  | zero => intro _ _ _ h; exact h
  | succ f ih => intro listed a w h; exact ⟨h.1, fun i hi => wpOp_mono (fun a' w' h' => ih _ a' w' h'.2) (h.2 i hi)⟩

theorem wpAnyX_take {i : Nat} {oi : Oper} {v : Value} {fuel : Nat} {listed : Array Bool} {a : Act} {w : World} (hi : ops[i]? = some oi)
    (hs : Region.noSelect ops = true) (hf : Region.free md ops listed i = true) (hr : (Region.ready md ops listed).contains i = true) (hL : Region.waitsFor md ops L i = true)
    (hQ : ∀ c a w, Q (.panic c) (a.put oi.dst v) w → Q (.panic c) a w) (hy : YieldsIf P ops S oi v a) (hS : S w)
    (h : wpAnyX P md ops Q S L fuel (listed.setIfInBounds i true) (a.put oi.dst v) w) : wpAnyX P md ops Q S L (fuel + 1) listed a w := by
  have hsel := Region.noSelect_spec hs
  obtain ⟨oL, hoL, eL, heL, hbL, honL⟩ := Region.waitsFor_spec hL
  have hfree := Region.free_spec hi hf
  have hrm : i ∈ Region.ready md ops listed := by simpa using hr
  clear hf hr
  revert listed a w
  induction fuel with
  | zero =>
    intro listed a w hy hS h hfree hrm
    refine ⟨fun h0 => (by rw [h0] at hrm; cases hrm), fun j hj => ?_⟩
    by_cases hji : j = i
    · subst hji; exact hy.wpOp hi hS ⟨.inr hS, h⟩
    · have h1 := ready_mono hj hji
      rw [h.1] at h1
      cases h1
  | succ fuel ih =>
    intro listed a w hy hS h hfree hrm
    refine ⟨fun h0 => (by rw [h0] at hrm; cases hrm), fun j hj => ?_⟩
    by_cases hji : j = i
    · subst hji; exact hy.wpOp hi hS ⟨.inr hS, h⟩
    · obtain ⟨hjun, oj, hoj, hall⟩ := mem_ready.1 hj
      have hun := (mem_ready.1 hrm).1
      -- whoever may come up now does not wait for i, which has not come up
      have hnot : ∀ e ∈ oj.after, Region.binds md e = true → e.on ≠ i := fun e he hb heq => by
        have h1 := hall e he hb
        rw [heq] at h1
        rcases Nat.lt_or_ge i listed.size with hlt | hge
        · simp [hlt] at hun h1; rw [hun] at h1; cases h1
        · simp [Array.getElem?_eq_none hge] at h1
      have hjL : j ≠ L := fun e => by
        subst e
        have : oj = oL := Option.some.inj (hoj.symm.trans hoL)
        subst this
        exact hnot eL heL hbL honL
      have h2 := wpOp_putIf hoj (hfree j oj hoj hji hjun hnot) (fun cs b => hsel i oi cs b hi) (fun cs b => hsel j oj cs b hoj) hQ hy (h.2 j (ready_mono hj hji))
      refine wpOp_mono (fun a' w' h3 => ?_) h2
      obtain ⟨hy', hSor, h4⟩ := h3
      have hS' : S w' := hSor.resolve_left hjL
      refine ⟨.inr hS', ih hy' hS' ?_ ?_ (ready_mono hrm (Ne.symm hji))⟩
      · rw [Array.setIfInBounds_comm _ _ hji]; exact h4
      · intro k ok hk hki hkun hno
        refine hfree k ok hk hki ?_ hno
        by_cases hjk : j = k
        · subst hjk; exact hjun
        · rw [getD_set_ne true hjk] at hkun; exact hkun

/-- The same, the slot written out. -/
theorem wpAnyX_takeD (i : Nat) (d : Option Tmp) {oi : Oper} {v : Value} {fuel : Nat} {listed : Array Bool} {a : Act} {w : World} (hi : ops[i]? = some oi) (hd : oi.dst = d)
    (hs : Region.noSelect ops = true) (hf : Region.free md ops listed i = true) (hr : (Region.ready md ops listed).contains i = true) (hL : Region.waitsFor md ops L i = true)
    (hQ : ∀ c a w, Q (.panic c) (a.put d v) w → Q (.panic c) a w) (hS : S w) (hg : oi.guard = none) (hy : ∀ w, S w → (execOp a.eval oi).run P w = .ok (.value v) w)
    (h : wpAnyX P md ops Q S L fuel (listed.setIfInBounds i true) (a.put d v) w) : wpAnyX P md ops Q S L (fuel + 1) listed a w := by
  subst hd
  exact wpAnyX_take hi hs hf hr hL hQ (Or.inl ⟨by simp [Region.wanted, hg], hy⟩) hS h

/-- Only number i may come up. -/
theorem wpAnyX_one {i : Nat} {oi : Oper} {fuel : Nat} {listed : Array Bool} {a : Act} {w : World} (hi : ops[i]? = some oi) (hr : Region.ready md ops listed = [i]) (hg : oi.guard = none)
    (h : ∀ K : Act → World → Prop, (∀ a' w', (i = L ∨ S w') → wpAnyX P md ops Q S L fuel (listed.setIfInBounds i true) a' w' → K a' w') → oi.wp P a w K Q) : wpAnyX P md ops Q S L (fuel + 1) listed a w := by
  refine ⟨fun h0 => (by rw [hr] at h0; cases h0), fun j hj => ?_⟩
  rw [hr] at hj
  obtain rfl : j = i := by simpa using hj
  unfold wpOp
  simp only [hi]
  rw [if_pos (by simp [Region.wanted, hg])]
  exact .inl (h _ (fun a' w' h1 h2 => ⟨h1, h2⟩))

/-- The same, for a law that ends in 'K (a.put o.dst v) w'': the slot written out. -/
theorem wpAnyX_oneD (i : Nat) (d : Option Tmp) {oi : Oper} {fuel : Nat} {listed : Array Bool} {a : Act} {w : World} (hi : ops[i]? = some oi) (hd : oi.dst = d) (hr : Region.ready md ops listed = [i]) (hg : oi.guard = none)
    (h : ∀ K : Act → World → Prop, (∀ v w', (i = L ∨ S w') → wpAnyX P md ops Q S L fuel (listed.setIfInBounds i true) (a.put d v) w' → K (a.put oi.dst v) w') → oi.wp P a w K Q) : wpAnyX P md ops Q S L (fuel + 1) listed a w := by
  subst hd
  exact wpAnyX_one hi hr hg (fun K hK => h K (fun v w' h1 h2 => hK _ _ h1 h2))

theorem wpAnyX_done {listed : Array Bool} {a : Act} {w : World} (hr : Region.ready md ops listed = []) (h : Q .normal a w) : ∀ f, wpAnyX P md ops Q S L f listed a w
  | 0 => ⟨hr, h⟩
  | _ + 1 => ⟨fun _ => h, by rw [hr]; simp⟩

theorem wp_region_X {id : Nat} {a : Act} {w : World} (S : World → Prop) (L : Nat) (hm : P.follows .mixedOrders = true)
    (h : wpAnyX P .any ops (NoPanic Q) S L ops.size (Array.replicate ops.size false) a w.drew) : (Code.region id ops true).wp P Q a w :=
  wp_region_noPanic (wp_region_any hm (wpAnyX_any _ _ _ _ h))
end
end Go.Proofs.Ybulkaqgy

/-
  record.Recorder in memory; installedOn walked.
-/
import Derived.Test.YbulkaqgyRecTable
namespace Go.Proofs.Ybulkaqgy.Rec
open Go.RowKit Go.Deep
set_option linter.unusedVariables false

/-- where the table of a key's shard stands in the Recorder's block -/
def T (k : Int) : Nat := 5 + idx k * 21 + 2
theorem T_lt (k : Int) (hk : K k) : T k + 2 < 1351 := by have := idx_lt k hk; unfold T; omega
theorem T_far {k k' : Int} (hk : K k) (hk' : K k') (h : k ≠ k') : T k + 2 < T k' ∨ T k' + 2 < T k := by
  have : idx k ≠ idx k' := fun e => h (idx_inj hk hk' e)
  unfold T; omega

abbrev Gran := Int × Int × Int

/-- one table in the Recorder's block -/
def Tab (R : Nat → Value) (k : Int) : Option Gran → Nat → Prop
  | none, _ => R (T k) = .slice none 0 0 ∧ R (T k + 1) = .int .i64 0
  | some _, b => R (T k) = .slice (some ⟨b, 0, none⟩) 8 8 ∧ R (T k + 1) = .int .i64 1 ∧ R (T k + 2) = .int .u64 61

/-- a key's slot -/
def SlotIs (S : Nat → Value) (k : Int) (g : Gran) : Prop :=
  S (hm k * 5) = .int .i64 k ∧ S (hm k * 5 + 1) = .bool true ∧ S (hm k * 5 + 2) = .int .i64 g.1 ∧ S (hm k * 5 + 3) = .int .i64 g.2.1 ∧ S (hm k * 5 + 4) = .int .i64 g.2.2

/-- the Recorder in memory -/
structure Rec (br : Nat) (init : Int) (M : Int → Option Gran) (B : Int → Nat) (wr : World) : Prop where
  row : ∃ R : Nat → Value, wr.rowIs br 57 1351 R ∧ R 0 = .nilFunc ∧ R 1 = .bool false ∧ R 3 = .nilIface ∧ R 4 = .int .i64 init ∧ ∀ k, K k → Tab R k (M k) (B k)
  slots : ∀ k g, K k → M k = some g → B k ≠ br ∧ ∃ S, wr.rowIs (B k) 97 40 S ∧ SlotIs S k g
  inj : ∀ k k', K k → K k' → M k ≠ none → M k' ≠ none → B k = B k' → k = k'

/-- the blocks that are the Recorder's -/
def own (br : Nat) (M : Int → Option Gran) (B : Int → Nat) (b : Nat) : Prop := b = br ∨ ∃ k, K k ∧ M k ≠ none ∧ b = B k

theorem Rec.lt {br : Nat} {init : Int} {M : Int → Option Gran} {B : Int → Nat} {w : World} (h : Rec br init M B w) {b : Nat} (hb : own br M B b) : b < w.heap.size := by
  rcases hb with rfl | ⟨k, hk, hm, rfl⟩
  · obtain ⟨R, hR, _⟩ := h.row; exact hR.lt
  · obtain ⟨g, hg⟩ := Option.ne_none_iff_exists'.1 hm
    obtain ⟨_, S, hS, _⟩ := h.slots k g hk hg
    exact hS.lt

/-- what is not the Recorder's may turn -/
theorem Rec.only {br : Nat} {init : Int} {M : Int → Option Gran} {B : Int → Nat} {w w' : World} {o : Nat → Prop} (h : Rec br init M B w) (hO : Only o w w') (hd : ∀ b, own br M B b → ¬ o b) : Rec br init M B w' := by
  refine ⟨?_, ?_, h.inj⟩
  · obtain ⟨R, hR, r⟩ := h.row
    exact ⟨R, hO.rowIs hR (hd _ (.inl rfl)), r⟩
  · intro k g hk hg
    obtain ⟨hne, S, hS, hs⟩ := h.slots k g hk hg
    exact ⟨hne, S, hO.rowIs hS (hd _ (.inr ⟨k, hk, by rw [hg]; simp, rfl⟩)), hs⟩

def setM (M : Int → Option Gran) (k : Int) (g : Gran) : Int → Option Gran := fun k' => if k' = k then some g else M k'

theorem Tab_upd {R : Nat → Value} {k k' : Int} {m : Option Gran} {b : Nat} (hk : K k) (hk' : K k') (hne : k' ≠ k) (h : Tab R k' m b) (i : Nat) (hi : i ≤ 2) (v : Value) : Tab (upd R (T k + i) v) k' m b := by
  have far := T_far hk' hk hne
  have e : ∀ j, j ≤ 2 → upd R (T k + i) v (T k' + j) = R (T k' + j) := fun j hj => upd_other _ _ _ _ (by omega)
  have e0 : upd R (T k + i) v (T k') = R (T k') := upd_other _ _ _ _ (by omega)
  cases m with
  | none => exact ⟨e0.trans h.1, (e 1 (by omega)).trans h.2⟩
  | some g => exact ⟨e0.trans h.1, (e 1 (by omega)).trans h.2.1, (e 2 (by omega)).trans h.2.2⟩

/-- a granule's value as installedOn leaves it -/
def inst (init : Int) : Option Gran → Gran
  | none => (0, init, 0)
  | some g => (g.1, if g.2.2 = 0 then init else g.2.1, g.2.2)

/-- a key's granule written in its slot -/
theorem Rec.put {br : Nat} {init : Int} {M : Int → Option Gran} {B : Int → Nat} {w w' : World} (h : Rec br init M B w) {k : Int} (hk : K k) {g g' : Gran} (hg : M k = some g) {S : Nat → Value}
    (hS : w'.rowIs (B k) 97 40 S) (hs : SlotIs S k g') (hO : Only (· = B k) w w') : Rec br init (setM M k g') B w' := by
  obtain ⟨hkb, _⟩ := h.slots k g hk hg
  have live : ∀ k', setM M k g' k' ≠ none → M k' ≠ none := by
    intro k' h'; unfold setM at h'; split at h'
    · rename_i e; subst e; rw [hg]; simp
    · exact h'
  refine ⟨?_, ?_, fun k1 k2 h1 h2 l1 l2 e => h.inj k1 k2 h1 h2 (live _ l1) (live _ l2) e⟩
  · obtain ⟨R, hR, r0, r1, r3, r4, ht⟩ := h.row
    refine ⟨R, hO.rowIs hR (fun e => hkb e.symm), r0, r1, r3, r4, fun k' hk' => ?_⟩
    have := ht k' hk'
    unfold setM; split
    · rename_i e; subst e; rw [hg] at this; exact this
    · exact this
  · intro k' g1 hk' hg1
    unfold setM at hg1; split at hg1
    · rename_i e; subst e
      cases hg1
      exact ⟨hkb, S, hS, hs⟩
    · rename_i hne
      obtain ⟨hkb', S', hS', hs'⟩ := h.slots k' g1 hk' hg1
      exact ⟨hkb', S', hO.rowIs hS' (fun e => hne (h.inj k' k hk' hk (by rw [hg1]; simp) (by rw [hg]; simp) e)), hs'⟩

/-- a key's table made -/
theorem Rec.add {br : Nat} {init : Int} {M : Int → Option Gran} {B : Int → Nat} {w w' : World} (h : Rec br init M B w) {k : Int} (hk : K k) (hg : M k = none) {R : Nat → Value} {g : Gran} {s : Nat} (hsz : s = w.heap.size)
    (hR : w.rowIs br 57 1351 R) (hR' : w'.rowIs br 57 1351 (upd (upd (upd R (T k) (.slice (some ⟨s, 0, none⟩) 8 8)) (T k + 2) (.int .u64 61)) (T k + 1) (.int .i64 1)))
    {S : Nat → Value} (hS : w'.rowIs s 97 40 S) (hs : SlotIs S k g) (hO : Only (· = br) w w')
    (hr : R 0 = .nilFunc ∧ R 1 = .bool false ∧ R 3 = .nilIface ∧ R 4 = .int .i64 init ∧ ∀ k, K k → Tab R k (M k) (B k)) :
    Rec br init (setM M k g) (fun k' => if k' = k then s else B k') w' := by
  obtain ⟨r0, r1, r3, r4, ht⟩ := hr
  have hT : 7 ≤ T k := by unfold T; omega
  have far : ∀ j, j < 5 → upd (upd (upd R (T k) (.slice (some ⟨s, 0, none⟩) 8 8)) (T k + 2) (.int .u64 61)) (T k + 1) (.int .i64 1) j = R j := fun j hj => by
    rw [upd_other _ _ _ _ (by omega), upd_other _ _ _ _ (by omega), upd_other _ _ _ _ (by omega)]
  have hbr : br < s := by rw [hsz]; exact hR.lt
  have hBlt : ∀ k', K k' → M k' ≠ none → B k' < s := fun k' hk' hl => by rw [hsz]; exact h.lt (.inr ⟨k', hk', hl, rfl⟩)
  refine ⟨⟨_, hR', (far 0 (by omega)).trans r0, (far 1 (by omega)).trans r1, (far 3 (by omega)).trans r3, (far 4 (by omega)).trans r4, fun k' hk' => ?_⟩, ?_, ?_⟩
  · by_cases e : k' = k
    · subst e
      simp only [setM, if_pos]
      refine ⟨?_, ?_, ?_⟩
      · rw [upd_other _ _ _ _ (by omega), upd_other _ _ _ _ (by omega), upd_same]
      · rw [upd_same]
      · rw [upd_other _ _ _ _ (by omega), upd_same]
    · simp only [setM, if_neg e]
      exact Tab_upd hk hk' e (Tab_upd hk hk' e (Tab_upd hk hk' e (ht k' hk') 0 (by omega) _) 2 (by omega) _) 1 (by omega) _
  · intro k' g1 hk' hg1
    by_cases e : k' = k
    · subst e
      simp only [setM, if_pos] at hg1
      cases hg1
      simp only [if_pos]
      exact ⟨by omega, S, hS, hs⟩
    · simp only [setM, if_neg e] at hg1 ⊢
      obtain ⟨hne, S', hS', hs'⟩ := h.slots k' g1 hk' hg1
      exact ⟨hne, S', hO.rowIs hS' hne, hs'⟩
  · intro k1 k2 h1 h2 l1 l2 e
    by_cases e1 : k1 = k
    · by_cases e2 : k2 = k
      · rw [e1, e2]
      · simp only [setM, if_pos e1, if_neg e2] at l1 l2 e
        have := hBlt k2 h2 l2; omega
    · by_cases e2 : k2 = k
      · simp only [setM, if_pos e2, if_neg e1] at l1 l2 e
        have := hBlt k1 h1 l1; omega
      · simp only [setM, if_neg e1, if_neg e2] at l1 l2 e
        exact h.inj k1 k2 h1 h2 l1 l2 e


theorem own_add {br : Nat} {M : Int → Option Gran} {B : Int → Nat} {k : Int} {g : Gran} {s N : Nat} (hs : N ≤ s) : ∀ b, own br (setM M k g) (fun k' => if k' = k then s else B k') b → own br M B b ∨ N ≤ b := by
  rintro b (rfl | ⟨k', hk', hl, rfl⟩)
  · exact .inl (.inl rfl)
  · by_cases e : k' = k
    · subst e; right; simpa using hs
    · simp only [setM, if_neg e] at hl ⊢
      exact .inl (.inr ⟨k', hk', hl, rfl⟩)

theorem own_put {br : Nat} {M : Int → Option Gran} {B : Int → Nat} {k : Int} {g g' : Gran} (hg : M k = some g) : ∀ b, own br (setM M k g') B b → own br M B b := by
  rintro b (rfl | ⟨k', hk', hl, rfl⟩)
  · exact .inl rfl
  · by_cases e : k' = k
    · subst e; exact .inr ⟨k', hk', by rw [hg]; simp, rfl⟩
    · simp only [setM, if_neg e] at hl
      exact .inr ⟨k', hk', hl, rfl⟩

set_option maxHeartbeats 1000000 in
theorem installed_none (k : Int) (hk : K k) (br : Nat) (init : Int) (M : Int → Option Gran) (B : Int → Nat) (w : World) (h : Rec br init M B w) (hg : M k = none) :
    Calls Yba.prog 12 #[.pointer (some ⟨br, 0, none⟩), .int .i64 k] w fun e w' => ∃ B', e = .returned (.pointer (some ⟨B' k, hm k * 5 + 2, none⟩)) ∧ Rec br init (setM M k (inst init (M k))) B' w' ∧
      Only (own br M B) w w' ∧ ∀ b, own br (setM M k (inst init (M k))) B' b → own br M B b ∨ w.heap.size ≤ b := by
  obtain ⟨R, hR, r0, r1, r3, r4, ht⟩ := h.row
  have htk := ht k hk
  rw [hg] at htk
  have hT := T_lt k hk
  have HK : Hid (K k) := hk
  have hh := hm_lt k
  have HR : Hid (w.rowIs br 57 1351 R) := hR
  have HRR : Hid (R 0 = .nilFunc ∧ R 1 = .bool false ∧ R 3 = .nilIface ∧ R 4 = .int .i64 init ∧ ∀ k, K k → Tab R k (M k) (B k)) := ⟨r0, r1, r3, r4, ht⟩
  have HT : Hid (R (T k) = .slice none 0 0 ∧ R (T k + 1) = .int .i64 0) := htk
  have H : Hid (Rec br init M B w) := h
  have HG : Hid (M k = none) := hg
  have hTe : T k = 5 + idx k * 21 + 2 := rfl
  have HTE : Hid (T k = 5 + idx k * 21 + 2) := hTe
  have hlt := hR.lt
  clear hk hR r0 r1 r3 r4 ht htk h hg
  go_enter Yba.func12, Yba.ntmps12
  go_wp2_with fail
  refine (shard_any k HK.out br 5 _).mono ?_
  rintro e w1 ⟨rfl, n1, rfl⟩
  clear hTe
  go_wp2_with fail
  refine (entry_new k HK.out br (5 + idx k * 21 + 2) R (w.drewN n1) HR.out (by rw [← show T k = _ from HTE.out]; exact hT) HT.out.1 HT.out.2).mono ?_
  rintro e w1 ⟨rfl, hr1, hs1, hO⟩
  obtain ⟨_, _, z2, z3, z4⟩ := slots0_at (hm k) hh
  have c2 : w1.cell? ⟨w.heap.size, hm k * 5 + 2, none⟩ = some (.int .i64 0) := (hs1.cell (by omega)).trans (by rw [upd_other _ _ _ _ (by omega), upd_other _ _ _ _ (by omega), z2])
  have c3 : w1.cell? ⟨w.heap.size, hm k * 5 + 3, none⟩ = some (.int .i64 0) := (hs1.cell (by omega)).trans (by rw [upd_other _ _ _ _ (by omega), upd_other _ _ _ _ (by omega), z3])
  have c4 : w1.cell? ⟨w.heap.size, hm k * 5 + 4, none⟩ = some (.int .i64 0) := (hs1.cell (by omega)).trans (by rw [upd_other _ _ _ _ (by omega), upd_other _ _ _ _ (by omega), z4])
  have cf : w1.frozen? ⟨w.heap.size, hm k * 5 + 3, none⟩ = false := hs1.frozen _
  have hT7 : 7 ≤ T k := by unfold T; omega
  have ci : w1.cell? ⟨br, 4, none⟩ = some (.int .i64 init) := (hr1.cell (by omega)).trans (by
    rw [← show T k = _ from HTE.out, upd_other _ _ _ _ (by omega), upd_other _ _ _ _ (by omega), upd_other _ _ _ _ (by omega), HRR.out.2.2.2.1])
  have HS1 : Hid (w1.rowIs w.heap.size 97 40 (upd (upd slot0 (hm k * 5) (.int .i64 k)) (hm k * 5 + 1) (.bool true))) := hs1
  have HR1 : Hid (w1.rowIs br 57 1351 (upd (upd (upd R (T k) (.slice (some ⟨w.heap.size, 0, none⟩) 8 8)) (T k + 2) (.int .u64 61)) (T k + 1) (.int .i64 1))) := hr1
  have HO : Hid (Only (· = br) w w1) := ⟨hO.os, hO.tape, hO.output, hO.size, hO.block⟩
  have HZ : Hid (slot0 (hm k * 5 + 2) = .int .i64 0 ∧ slot0 (hm k * 5 + 3) = .int .i64 0 ∧ slot0 (hm k * 5 + 4) = .int .i64 0) := ⟨z2, z3, z4⟩
  clear hr1 hs1 hO z2 z3 z4
  go_wp2
  go_ret
  have hr1 : (w1.setCell ⟨w.heap.size, hm k * 5 + 2 + 1, none⟩ (.int .i64 init)).rowIs br 57 1351 (upd (upd (upd R (T k) (.slice (some ⟨w.heap.size, 0, none⟩) 8 8)) (T k + 2) (.int .u64 61)) (T k + 1) (.int .i64 1)) :=
    (show w1.rowIs br 57 1351 (upd (upd (upd R (T k) (.slice (some ⟨w.heap.size, 0, none⟩) 8 8)) (T k + 2) (.int .u64 61)) (T k + 1) (.int .i64 1)) from HR1.out).setOther (by show br ≠ w.heap.size; omega) _
  have hs1 := rowIs_upd (show w1.rowIs w.heap.size 97 40 (upd (upd slot0 (hm k * 5) (.int .i64 k)) (hm k * 5 + 1) (.bool true)) from HS1.out) (hm k * 5 + 2 + 1) (.int .i64 init)
  have hO : Only (· = br) w (w1.setCell ⟨w.heap.size, hm k * 5 + 2 + 1, none⟩ (.int .i64 init)) :=
    Only.setCell (own := fun x => x = br) HO.out (.inr (Nat.le_refl _)) _
  have hgi : inst init (M k) = (0, init, 0) := by rw [show M k = none from HG.out]; rfl
  refine ⟨fun k' => if k' = k then w.heap.size else B k', by simp, ?_, ?_, own_add (Nat.le_refl _)⟩
  · rw [hgi]
    refine (show Rec br init M B w from H.out).add HK.out HG.out rfl HR.out hr1 hs1 ?_ hO HRR.out
    refine ⟨?_, ?_, ?_, ?_, ?_⟩
    · rw [upd_other _ _ _ _ (by omega), upd_other _ _ _ _ (by omega), upd_same]
    · rw [upd_other _ _ _ _ (by omega), upd_same]
    · rw [upd_other _ _ _ _ (by omega), upd_other _ _ _ _ (by omega), upd_other _ _ _ _ (by omega), HZ.out.1]
    · rw [upd_same]
    · rw [upd_other _ _ _ _ (by omega), upd_other _ _ _ _ (by omega), upd_other _ _ _ _ (by omega), HZ.out.2.2]
  · exact ⟨hO.os, hO.tape, hO.output, hO.size, fun c hc hn => hO.block c hc (fun e => hn (.inl e))⟩

set_option maxHeartbeats 1000000 in
theorem installed_live (k : Int) (hk : K k) (br : Nat) (init : Int) (M : Int → Option Gran) (B : Int → Nat) (w : World) (h : Rec br init M B w) (g : Gran) (hg : M k = some g) :
    Calls Yba.prog 12 #[.pointer (some ⟨br, 0, none⟩), .int .i64 k] w fun e w' => ∃ B', e = .returned (.pointer (some ⟨B' k, hm k * 5 + 2, none⟩)) ∧ Rec br init (setM M k (inst init (M k))) B' w' ∧
      Only (own br M B) w w' ∧ ∀ b, own br (setM M k (inst init (M k))) B' b → own br M B b ∨ w.heap.size ≤ b := by
  obtain ⟨R, hR, r0, r1, r3, r4, ht⟩ := h.row
  have htk := ht k hk
  rw [hg] at htk
  obtain ⟨t0, t1, t2⟩ := htk
  obtain ⟨hkb, S, hS, s0, s1, s2, s3, s4⟩ := h.slots k g hk hg
  obtain ⟨ver, val, ins⟩ := g
  have hT := T_lt k hk
  have HK : Hid (K k) := hk
  have hh := hm_lt k
  have c0 : w.cell? ⟨B k, hm k * 5, none⟩ = some (.int .i64 k) := (hS.cell (by omega)).trans (by rw [s0])
  have c1 : w.cell? ⟨B k, hm k * 5 + 1, none⟩ = some (.bool true) := (hS.cell (by omega)).trans (by rw [s1])
  have c3 : w.cell? ⟨B k, hm k * 5 + 3, none⟩ = some (.int .i64 val) := (hS.cell (by omega)).trans (by rw [s3])
  have c4 : w.cell? ⟨B k, hm k * 5 + 4, none⟩ = some (.int .i64 ins) := (hS.cell (by omega)).trans (by rw [s4])
  have cf : w.frozen? ⟨B k, hm k * 5 + 3, none⟩ = false := hS.frozen _
  have ci : w.cell? ⟨br, 4, none⟩ = some (.int .i64 init) := (hR.cell (by omega)).trans (by rw [r4])
  have u0 : w.cell? ⟨br, 5 + idx k * 21 + 2, none⟩ = some (.slice (some ⟨B k, 0, none⟩) 8 8) := (hR.cell (by unfold T at hT; omega)).trans (congrArg some t0)
  have u1 : w.cell? ⟨br, 5 + idx k * 21 + 2 + 1, none⟩ = some (.int .i64 1) := (hR.cell (by unfold T at hT; omega)).trans (congrArg some t1)
  have u2 : w.cell? ⟨br, 5 + idx k * 21 + 2 + 2, none⟩ = some (.int .u64 61) := (hR.cell (by unfold T at hT; omega)).trans (congrArg some t2)
  have HS : Hid (w.rowIs (B k) 97 40 S) := hS
  have Hs : Hid (SlotIs S k (ver, val, ins)) := ⟨s0, s1, s2, s3, s4⟩
  have H : Hid (Rec br init M B w) := h
  have HG : Hid (M k = some (ver, val, ins)) := hg
  have hgi : inst init (M k) = (ver, if ins = 0 then init else val, ins) := by rw [hg]; rfl
  have HGI : Hid (inst init (M k) = (ver, if ins = 0 then init else val, ins)) := hgi
  have hO0 : ∀ n, Only (own br M B) w (w.drewN n) := fun n => (Only.refl _ w).drewN n
  clear hk hR r0 r1 r3 r4 ht h hg t0 t1 t2 hS s0 s1 s2 s3 s4 hgi
  generalize hbk : B k = bk at *
  have HB : Hid (B k = bk) := hbk
  clear hbk
  by_cases hi : ins = 0
  all_goals
    go_enter Yba.func12, Yba.ntmps12
    go_wp2_with fail
    refine (shard_any k HK.out br 5 _).mono ?_
    rintro e w1 ⟨rfl, n1, rfl⟩
    go_wp2_with fail
    refine (entry_live k HK.out br (5 + idx k * 21 + 2) bk (w.drewN n1) u0 u1 u2 c1 c0).mono ?_
    rintro e w1 ⟨rfl, n2, rfl⟩
    go_wp2
    go_ret
  · refine ⟨B, by rw [show B k = bk from HB.out]; rfl, ?_, ?_, fun b hb => .inl (own_put (show M k = some _ from HG.out) b hb)⟩
    · rw [show inst init (M k) = _ from HGI.out, if_pos hi]
      have hB := (show B k = bk from HB.out)
      refine (show Rec br init M B w from H.out).put HK.out HG.out (by rw [hB]; exact rowIs_upd (show (w.drewN (n1 + n2)).rowIs bk 97 40 S from HS.out) _ _) ?_ ?_
      · obtain ⟨s0, s1, s2, s3, s4⟩ := (show SlotIs S k (ver, val, ins) from Hs.out)
        refine ⟨?_, ?_, ?_, ?_, ?_⟩
        · rw [upd_other _ _ _ _ (by omega)]; exact s0
        · rw [upd_other _ _ _ _ (by omega)]; exact s1
        · rw [upd_other _ _ _ _ (by omega)]; exact s2
        · rw [upd_same]
        · rw [upd_other _ _ _ _ (by omega)]; exact s4
      · rw [hB]
        refine Only.setCell (own := fun x => x = bk) ?_ (.inl rfl) _
        exact (Only.refl _ w).drewN _
    · have hB := (show B k = bk from HB.out)
      refine Only.setCell (own := own br M B) ?_ (.inl (.inr ⟨k, HK.out, by rw [show M k = _ from HG.out]; simp, hB.symm⟩)) _
      exact (Only.refl _ w).drewN _
  · refine ⟨B, by rw [show B k = bk from HB.out]; rfl, ?_, ?_, fun b hb => .inl (own_put (show M k = some _ from HG.out) b hb)⟩
    · rw [show inst init (M k) = _ from HGI.out, if_neg hi]
      have hB := (show B k = bk from HB.out)
      exact (show Rec br init M B w from H.out).put HK.out HG.out (by rw [hB]; exact (show (w.drewN (n1 + n2)).rowIs bk 97 40 S from HS.out)) Hs.out ((Only.refl _ w).drewN _)
    · exact (Only.refl _ w).drewN _

theorem installed_any (k : Int) (hk : K k) (br : Nat) (init : Int) (M : Int → Option Gran) (B : Int → Nat) (w : World) (h : Rec br init M B w) :
    Calls Yba.prog 12 #[.pointer (some ⟨br, 0, none⟩), .int .i64 k] w fun e w' => ∃ B', e = .returned (.pointer (some ⟨B' k, hm k * 5 + 2, none⟩)) ∧ Rec br init (setM M k (inst init (M k))) B' w' ∧
      Only (own br M B) w w' ∧ ∀ b, own br (setM M k (inst init (M k))) B' b → own br M B b ∨ w.heap.size ≤ b := by
  cases hg : M k with
  | none => rw [← hg]; exact installed_none k hk br init M B w h hg
  | some g => rw [← hg]; exact installed_live k hk br init M B w h g hg
end Go.Proofs.Ybulkaqgy.Rec

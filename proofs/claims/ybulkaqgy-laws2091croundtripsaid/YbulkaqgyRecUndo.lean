/-
  Attempt.restart and Table.Get, over the Recorder in memory.
-/
import Derived.Test.YbulkaqgyRecInst
namespace Go.Proofs.Ybulkaqgy.Rec
open Go.RowKit Go.Deep
set_option linter.unusedVariables false

def granV : Option Gran → Value
  | none => .agg #[.int .i64 0, .int .i64 0, .int .i64 0]
  | some g => .agg #[.int .i64 g.1, .int .i64 g.2.1, .int .i64 g.2.2]

theorem get_any (k : Int) (hk : K k) (br : Nat) (init : Int) (M : Int → Option Gran) (B : Int → Nat) (w : World) (h : Rec br init M B w) :
    Calls Yba.prog 10 #[.pointer (some ⟨br, 5 + idx k * 21 + 2, none⟩), .int .i64 k] w fun e w' => e = .returned (.tuple #[granV (M k), .bool (M k).isSome]) ∧ Only (fun _ => False) w w' := by
  obtain ⟨R, hR, r0, r1, r3, r4, ht⟩ := h.row
  have htk := ht k hk
  have hT := T_lt k hk
  cases hg : M k with
  | none =>
    rw [hg] at htk
    exact get_none k br (5 + idx k * 21 + 2) w ((hR.cell (by unfold T at hT; omega)).trans (congrArg some htk.2))
  | some g =>
    rw [hg] at htk
    obtain ⟨t0, t1, t2⟩ := htk
    obtain ⟨hkb, S, hS, s0, s1, s2, s3, s4⟩ := h.slots k g hk hg
    have hh := hm_lt k
    exact get_live k hk br (5 + idx k * 21 + 2) (B k) g.1 g.2.1 g.2.2 w ((hR.cell (by unfold T at hT; omega)).trans (congrArg some t0)) ((hR.cell (by unfold T at hT; omega)).trans (congrArg some t1)) ((hR.cell (by unfold T at hT; omega)).trans (congrArg some t2))
      ((hS.cell (by omega)).trans (congrArg some s1)) ((hS.cell (by omega)).trans (congrArg some s0)) ((hS.cell (by omega)).trans (congrArg some s2)) ((hS.cell (by omega)).trans (congrArg some s3)) ((hS.cell (by omega)).trans (congrArg some s4))

/-- a granule as restart leaves it, one entry of the undo list taken back -/
def undo1 (init : Int) (u : Gran) (M : Int → Option Gran) : Int → Option Gran := setM M u.1 (u.2.1, u.2.2, (inst init (M u.1)).2.2)

/-- the undo list in memory -/
def Undo (w : World) (bu : Nat) (us : List Gran) : Prop :=
  ∀ i, i < us.length → K (us.getD i (0, 0, 0)).1 ∧ w.cell? ⟨bu, i * 3, none⟩ = some (.int .i64 (us.getD i (0, 0, 0)).1) ∧ w.cell? ⟨bu, i * 3 + 1, none⟩ = some (.int .i64 (us.getD i (0, 0, 0)).2.1) ∧ w.cell? ⟨bu, i * 3 + 2, none⟩ = some (.int .i64 (us.getD i (0, 0, 0)).2.2)

theorem Only.cell {o : Nat → Prop} {w w' : World} (h : Only o w w') {b i : Nat} {v : Value} (hb : ¬ o b) (hc : w.cell? ⟨b, i, none⟩ = some v) : w'.cell? ⟨b, i, none⟩ = some v :=
  (World.cell?_of_block (w := w) (w' := w') (a := ⟨b, i, none⟩) (h.block b (World.block_lt_of_cell? _ _ hc) hb)).trans hc

/-- the two stores of restart's round -/
theorem Rec.put2 {br : Nat} {init : Int} {M : Int → Option Gran} {B : Int → Nat} {w : World} (h : Rec br init M B w) {k : Int} (hk : K k) {g : Gran} (hg : M k = some g) (x y : Int) :
    Rec br init (setM M k (x, y, g.2.2)) B ((w.setCell ⟨B k, hm k * 5 + 2, none⟩ (.int .i64 x)).setCell ⟨B k, hm k * 5 + 3, none⟩ (.int .i64 y)) := by
  obtain ⟨hkb, S, hS, s0, s1, s2, s3, s4⟩ := h.slots k g hk hg
  refine h.put hk hg (rowIs_upd (rowIs_upd hS _ _) _ _) ?_ ?_
  · refine ⟨?_, ?_, ?_, ?_, ?_⟩
    · rw [upd_other _ _ _ _ (by omega), upd_other _ _ _ _ (by omega)]; exact s0
    · rw [upd_other _ _ _ _ (by omega), upd_other _ _ _ _ (by omega)]; exact s1
    · rw [upd_other _ _ _ _ (by omega), upd_same]
    · rw [upd_same]
    · rw [upd_other _ _ _ _ (by omega), upd_other _ _ _ _ (by omega)]; exact s4
  · refine Only.setCell (own := fun x => x = B k) ?_ (.inl rfl) _
    refine Only.setCell (own := fun x => x = B k) ?_ (.inl rfl) _
    exact Only.refl _ w

theorem setM_setM (M : Int → Option Gran) (k : Int) (g g' : Gran) : setM (setM M k g) k g' = setM M k g' := by
  funext k'; unfold setM; split <;> rfl

theorem Rec.drew {br : Nat} {init : Int} {M : Int → Option Gran} {B : Int → Nat} {w : World} (h : Rec br init M B w) : Rec br init M B w.drew := ⟨h.row, h.slots, h.inj⟩
theorem Rec.drewN {br : Nat} {init : Int} {M : Int → Option Gran} {B : Int → Nat} {w : World} (h : Rec br init M B w) (n : Nat) : Rec br init M B (w.drewN n) := ⟨h.row, h.slots, h.inj⟩
theorem Rec.alloc {br : Nat} {init : Int} {M : Int → Option Gran} {B : Int → Nat} {w : World} (h : Rec br init M B w) (o : Obj) : Rec br init M B (w.alloc o) := h.only ((Only.refl (fun _ => False) w).alloc o) (fun _ _ h => h)

set_option maxHeartbeats 1000000 in
theorem restart_any (ba bu br n cap : Nat) (init : Int) (us : List Gran) (M0 : Int → Option Gran) (B0 : Int → Nat) (idv : Value) (v2 v3 v5 v6 : Value) (w : World) (h : Rec br init M0 B0 w)
    (hn : us.length = n) (hcap : n ≤ cap) (hn0 : n ≤ 4096)
    (hat : w.heap[ba]? = some (.cells #[.pointer (some ⟨br, 0, none⟩), idv, v2, v3, .slice (some ⟨bu, 0, none⟩) n cap, v5, v6] 70 (0, 0)))
    (hus : Undo w bu us) (hba : ¬ own br M0 B0 ba) (hbu : ¬ own br M0 B0 bu) (hbul : 0 < n → bu < w.heap.size) :
    Calls Yba.prog 8 #[.pointer (some ⟨ba, 0, none⟩)] w fun e w' => e = .returned (.tuple #[]) ∧ ∃ B', Rec br init (us.foldr (undo1 init) M0) B' w' ∧ Only (own br M0 B0) w w' ∧
      ∀ b, own br (us.foldr (undo1 init) M0) B' b → own br M0 B0 b ∨ w.heap.size ≤ b := by
  have ha0 : w.cell? ⟨ba, 0, none⟩ = some (.pointer (some ⟨br, 0, none⟩)) := (cell_of_heap hat).trans rfl
  have ha4 : w.cell? ⟨ba, 4, none⟩ = some (.slice (some ⟨bu, 0, none⟩) n cap) := (cell_of_heap hat).trans rfl
  have hbal := lt_of_heap hat
  have HN : Hid (us.length = n) := hn
  have H : Hid (Rec br init M0 B0 w) := h
  have HU : Hid (Undo w bu us) := hus
  clear hn h hus hat
  go_enter Yba.func8, Yba.ntmps8
  go_wp2
  go_loopg [2, 3, 4] n (fun t i p3 p4 wr => t ≤ n ∧ i = .int .i64 ((t : Int) - 1) ∧ ∃ B, Rec br init ((us.drop t).foldr (undo1 init) M0) B wr ∧ Only (own br M0 B0) w wr ∧
      ∀ b, own br ((us.drop t).foldr (undo1 init) M0) B b → own br M0 B0 b ∨ w.heap.size ≤ b)
  case atStart => exact ⟨Nat.le_refl _, rfl, B0, by rw [← show us.length = n from HN.out, List.drop_length]; exact H.out, Only.refl _ _, by rw [← show us.length = n from HN.out, List.drop_length]; exact fun b hb => .inl hb⟩
  case round =>
    obtain ⟨htn, rfl, B, hr, hO, hsub⟩ := hrel
    cases gk with
    | zero =>
      have HF : Hid (∃ B', Rec br init (us.foldr (undo1 init) M0) B' wr ∧ Only (own br M0 B0) w wr ∧ ∀ b, own br (us.foldr (undo1 init) M0) B' b → own br M0 B0 b ∨ w.heap.size ≤ b) := ⟨B, hr, hO, hsub⟩
      clear hr hO hsub
      go_wp2
      go_end0
      exact ⟨rfl, HF.out⟩
    | succ t =>
      obtain ⟨M, hM⟩ : ∃ M, M = (us.drop (t + 1)).foldr (undo1 init) M0 := ⟨_, rfl⟩
      rw [← hM] at hr hsub
      obtain ⟨hKk, c0, c1, c2⟩ := (show Undo w bu us from HU.out) t (by rw [show us.length = n from HN.out]; omega)
      obtain ⟨u, hu⟩ : ∃ u, u = us.getD t (0, 0, 0) := ⟨_, rfl⟩
      rw [← hu] at hKk c0 c1 c2
      obtain ⟨k, x, y⟩ := u
      simp only at hKk c0 c1 c2
      have e0 := hO.cell hbu c0
      have e1 := hO.cell hbu c1
      have e2 := hO.cell hbu c2
      have ea0 := hO.cell hba ha0
      have ea4 := hO.cell hba ha4
      have hbul2 : bu < wr.heap.size := World.block_lt_of_cell? _ _ e0
      have hbal2 : ba < wr.heap.size := World.block_lt_of_cell? _ _ ea0
      have HK : Hid (K k) := hKk
      have HR : Hid (Rec br init M B wr) := hr
      have HO : Hid (Only (own br M0 B0) w wr) := hO
      have HS : Hid (∀ b, own br M B b → own br M0 B0 b ∨ w.heap.size ≤ b) := hsub
      have HM : Hid (M = (us.drop (t + 1)).foldr (undo1 init) M0) := hM
      have HUU : Hid ((k, x, y) = us.getD t (0, 0, 0)) := hu
      clear hM hu hr hO hsub hKk c0 c1 c2
      have hc : ((t + 1 : Nat) : Int) - 1 = (t : Int) := by omega
      rw [hc]
      clear hc
      have hRA := (show Rec br init M B wr from HR.out).alloc (.cells #[.int .i64 k, .int .i64 x, .int .i64 y] 61)
      have HRA : Hid (Rec br init M B (wr.alloc (.cells #[.int .i64 k, .int .i64 x, .int .i64 y] 61)).drew) := hRA.drew
      have hea : (wr.alloc (.cells #[.int .i64 k, .int .i64 x, .int .i64 y] 61)).cell? ⟨ba, 0, none⟩ = some (.pointer (some ⟨br, 0, none⟩)) := (World.cell?_alloc_lt _ _ _ (by exact hbal2)).trans ea0
      have hl0 : (wr.alloc (.cells #[.int .i64 k, .int .i64 x, .int .i64 y] 61)).drew.cell? ⟨wr.heap.size, 0, none⟩ = some (.int .i64 k) := by simp
      have hl1 : (wr.alloc (.cells #[.int .i64 k, .int .i64 x, .int .i64 y] 61)).drew.cell? ⟨wr.heap.size, 1, none⟩ = some (.int .i64 x) := by simp
      have hl2 : (wr.alloc (.cells #[.int .i64 k, .int .i64 x, .int .i64 y] 61)).drew.cell? ⟨wr.heap.size, 2, none⟩ = some (.int .i64 y) := by simp
      have HL : Hid _ := And.intro hl0 (And.intro hl1 hl2)
      have HEA : Hid _ := hea
      have HNA : Hid (¬ own br M B ba) := fun ho => by
        rcases (show ∀ b, own br M B b → own br M0 B0 b ∨ w.heap.size ≤ b from HS.out) ba ho with h1 | h1
        · exact hba h1
        · omega
      have HNL : Hid (¬ own br M B wr.heap.size) := fun ho => by have := (show Rec br init M B wr from HR.out).lt ho; omega
      clear hRA hl0 hl1 hl2
      go_wp2
      go_region_held3 (fun w' => w'.cell? ⟨ba, 0, none⟩ = some (.pointer (some ⟨br, 0, none⟩)) ∧ w'.cell? ⟨wr.heap.size, 0, none⟩ = some (.int .i64 k)) (go_keep)
        (first | (go_at_call 12; refine (installed_any k HK.out br init M B _ HRA.out).mono ?_; rintro e w1 ⟨B1, rfl, hR1, hO1, hs1⟩; have ga0 := Only.cell hO1 HNA.out HEA.out; have gl0 := Only.cell hO1 HNL.out (HL.out).1; have gl1 := Only.cell hO1 HNL.out (HL.out).2.1; have gl2 := Only.cell hO1 HNL.out (HL.out).2.2))
      have hgk : setM M k (inst init (M k)) k = some (inst init (M k)) := by simp [setM]
      obtain ⟨hkb, S, hSr, s0, s1, s2, s3, s4⟩ := hR1.slots k _ HK.out hgk
      have hh := hm_lt k
      have p2 : w1.cell? ⟨B1 k, hm k * 5 + 2, none⟩ = some (.int .i64 (inst init (M k)).1) := (hSr.cell (by omega)).trans (congrArg some s2)
      have p3 : w1.cell? ⟨B1 k, hm k * 5 + 3, none⟩ = some (.int .i64 (inst init (M k)).2.1) := (hSr.cell (by omega)).trans (congrArg some s3)
      have pf2 : w1.frozen? ⟨B1 k, hm k * 5 + 2, none⟩ = false := hSr.frozen _
      have pf3 : w1.frozen? ⟨B1 k, hm k * 5 + 3, none⟩ = false := hSr.frozen _
      have hnl2 : wr.heap.size ≠ B1 k := by
        intro e
        rcases hs1 (B1 k) (.inr ⟨k, HK.out, by rw [hgk]; simp, rfl⟩) with h1 | h1
        · rw [← e] at h1; exact HNL.out h1
        · rw [← e] at h1; simp at h1; omega
      have HR1 : Hid (Rec br init (setM M k (inst init (M k))) B1 w1) := hR1
      have HO1 : Hid (Only (own br M B) (wr.alloc (.cells #[.int .i64 k, .int .i64 x, .int .i64 y] 61)).drew w1) := hO1
      have HS1 : Hid (∀ b, own br (setM M k (inst init (M k))) B1 b → own br M B b ∨ (wr.alloc (.cells #[.int .i64 k, .int .i64 x, .int .i64 y] 61)).drew.heap.size ≤ b) := hs1
      clear hR1 hO1 hs1 hSr s0 s1 s2 s3 s4 hgk
      go_wp2
      go_region
      all_goals try go_wp2
      go_roundg t
      case measure => omega
      case rel =>
        have hdrop : (us.drop t).foldr (undo1 init) M0 = setM M k (x, y, (inst init (M k)).2.2) := by
          have hlt : t < us.length := by rw [show us.length = n from HN.out]; omega
          rw [List.drop_eq_getElem_cons hlt, List.foldr_cons, ← show M = _ from HM.out]
          have he : us[t] = (k, x, y) := by
            have h1 := (show (k, x, y) = us.getD t (0, 0, 0) from HUU.out)
            rw [h1, List.getD_eq_getElem?_getD, List.getElem?_eq_getElem hlt, Option.getD_some]
          rw [he]; rfl
        have hgk : setM M k (inst init (M k)) k = some (inst init (M k)) := by simp [setM]
        have hR1 := (show Rec br init (setM M k (inst init (M k))) B1 w1 from HR1.out)
        have hput := hR1.put2 HK.out hgk x y
        rw [setM_setM] at hput
        have hO := (show Only (own br M0 B0) w wr from HO.out)
        have hS0 := (show ∀ b, own br M B b → own br M0 B0 b ∨ w.heap.size ≤ b from HS.out)
        have hS1 := (show ∀ b, own br (setM M k (inst init (M k))) B1 b → own br M B b ∨ (wr.alloc (.cells #[.int .i64 k, .int .i64 x, .int .i64 y] 61)).drew.heap.size ≤ b from HS1.out)
        have hsz := hO.size
        have hS2 : ∀ b, own br (setM M k (inst init (M k))) B1 b → own br M0 B0 b ∨ w.heap.size ≤ b := fun b hb => by
          rcases hS1 b hb with h1 | h1
          · exact hS0 b h1
          · right; simp at h1; omega
        have hO2 : Only (own br M0 B0) w w1 := ((hO.alloc _).drew).trans (show Only (own br M B) (wr.alloc (.cells #[.int .i64 k, .int .i64 x, .int .i64 y] 61)).drew w1 from HO1.out) hS0
        have hown : own br (setM M k (inst init (M k))) B1 (B1 k) := .inr ⟨k, HK.out, by rw [hgk]; simp, rfl⟩
        refine ⟨by omega, rfl, B1, ?_, ?_, ?_⟩
        · rw [hdrop]; exact hput.drew
        · refine Only.drew ?_
          refine Only.setCell (own := own br M0 B0) ?_ (hS2 _ hown) _
          refine Only.setCell (own := own br M0 B0) ?_ (hS2 _ hown) _
          exact hO2
        · rw [hdrop]
          intro b hb
          refine hS2 b (own_put (M := setM M k (inst init (M k))) (g' := (x, y, (inst init (M k)).2.2)) hgk b ?_)
          rw [setM_setM]; exact hb
end Go.Proofs.Ybulkaqgy.Rec

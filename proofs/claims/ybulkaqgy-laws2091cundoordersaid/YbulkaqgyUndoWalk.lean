/-
  The walk of record.LawS2091CUndoOrder (function 4).
-/
import Derived.Test.YbulkaqgyRecNew
import Derived.Deep.RegionLaw
namespace Go.Proofs.Ybulkaqgy.Rec
open Go.RowKit Go.Deep
set_option linter.unusedVariables false

theorem info61 : (Yba.prog.info? 61).map (fun i => (i.zero, i.size, i.bytes)) = some (some (.agg #[.int .i64 0, .int .i64 0, .int .i64 0]), 3, 24) := by kernel_rfl

def undoCells (n : Nat) : Array Value := madeCells #[.int .i64 0, .int .i64 0, .int .i64 0] (n * 3)
theorem make61 (n : Nat) (hn : n ≤ 1024) (w : World) : (Instr.makeSlice 58 (.int .i64 0) (.int .i64 (n : Int))).run Yba.prog w = .ok (.slice (some ⟨w.heap.size, 0, none⟩) 0 n) (w.alloc (.cells (undoCells n) 61)) := by
  obtain ⟨i0, hi, hz0, hz1, hz2⟩ := info_parts info61
  have h := run_make (P := Yba.prog) w 58 61 i0 _ Yba.underlying58 hi hz0 .i64 .i64 0 (n : Int) (by omega) (by omega) (by rw [hz2]; omega) (by omega)
  rw [hz1] at h
  exact h

/-- the undo list that the law makes -/
def usOf (n : Nat) (G R V : Nat → Int) (lr lv : Nat) : List Gran := (List.range n).map fun i => (G i % 16 - 4, at0 R lr i, at0 V lv i)
theorem usOf_len (n : Nat) (G R V : Nat → Int) (lr lv : Nat) : (usOf n G R V lr lv).length = n := by simp [usOf]
theorem usOf_at (n : Nat) (G R V : Nat → Int) (lr lv i : Nat) (hi : i < n) : (usOf n G R V lr lv).getD i (0, 0, 0) = (G i % 16 - 4, at0 R lr i, at0 V lv i) := by simp [usOf, hi]

/-- the undo row while it is filled -/
structure Und (w : World) (init : Int) (n : Nat) (G R V : Nat → Int) (lr lv t : Nat) (wr : World) : Prop where
  below : Below w.heap.size w wr
  hr : wr.heap[w.heap.size]? = some (.cells (recCells (.int .i64 init)) 57 (0, 0))
  row : ∃ S : Nat → Value, wr.rowIs (w.heap.size + 1) 61 (n * 3) S ∧ ∀ i, i < t → S (i * 3) = .int .i64 (G i % 16 - 4) ∧ S (i * 3 + 1) = .int .i64 (at0 R lr i) ∧ S (i * 3 + 2) = .int .i64 (at0 V lv i)

theorem Und.start (w : World) (init : Int) (n : Nat) (G R V : Nat → Int) (lr lv : Nat) : Und w init n G R V lr lv 0 ((w.alloc (.cells (recCells (.int .i64 init)) 57)).alloc (.cells (undoCells n) 61)) := by
  refine ⟨((Below.refl _ _).alloc (Nat.le_refl _) _).alloc (by simp) _, ?_, fun j => (undoCells n).getD j (.bool false), ⟨undoCells n, ?_, ?_, fun i hi => ?_⟩, fun i hi => by omega⟩
  · rw [heap_alloc_if, if_neg (by simp), heap_alloc_if, if_pos rfl]
  · rw [heap_alloc_if, if_pos (by simp)]
  · exact size_madeCells _ _
  · have h2 : i < (undoCells n).size := by unfold undoCells; rw [size_madeCells]; exact hi
    simp [Array.getD, h2]

theorem Und.step {w : World} {init : Int} {n : Nat} {G R V : Nat → Int} {lr lv t : Nat} {wr : World} (h : Und w init n G R V lr lv t wr) (ht : t < n) (o : Obj) :
    Und w init n G R V lr lv (t + 1) ((wr.alloc o).drew.setCells (w.heap.size + 1) (0 + t * 3) [.int .i64 (G t % 16 - 4), .int .i64 (at0 R lr t), .int .i64 (at0 V lv t)]) := by
  obtain ⟨hb, hr, S, hS, hs⟩ := h
  have hsz := hb.size
  have hl := lt_of_heap hr
  have hl2 := hS.lt
  rw [Nat.zero_add]
  refine ⟨?_, ?_, ?_⟩
  · exact ((((hb.alloc hsz _).drew).setCell (by exact Nat.le_succ _) _).setCell (by exact Nat.le_succ _) _).setCell (by exact Nat.le_succ _) _
  · show ((((wr.alloc o).drew.setCell _ _).setCell _ _).setCell _ _).heap[w.heap.size]? = _
    rw [heap_setCell_other _ _ _ _ (by simp), heap_setCell_other _ _ _ _ (by simp), heap_setCell_other _ _ _ _ (by simp), heap_drew, heap_alloc_if, if_neg (by omega)]
    exact hr
  · refine ⟨upd (upd (upd S (t * 3) (.int .i64 (G t % 16 - 4))) (t * 3 + 1) (.int .i64 (at0 R lr t))) (t * 3 + 1 + 1) (.int .i64 (at0 V lv t)), rowIs_upd (rowIs_upd (rowIs_upd (hS.alloc o).drew _ _) _ _) _ _, fun i hi => ?_⟩
    by_cases e : i = t
    · subst e
      refine ⟨?_, ?_, ?_⟩
      · rw [upd_other _ _ _ _ (by omega), upd_other _ _ _ _ (by omega), upd_same]
      · rw [upd_other _ _ _ _ (by omega), upd_same]
      · rw [upd_same]
    · obtain ⟨x0, x1, x2⟩ := hs i (by omega)
      refine ⟨?_, ?_, ?_⟩
      · rw [upd_other _ _ _ _ (by omega), upd_other _ _ _ _ (by omega), upd_other _ _ _ _ (by omega)]; exact x0
      · rw [upd_other _ _ _ _ (by omega), upd_other _ _ _ _ (by omega), upd_other _ _ _ _ (by omega)]; exact x1
      · rw [upd_other _ _ _ _ (by omega), upd_other _ _ _ _ (by omega), upd_other _ _ _ _ (by omega)]; exact x2

theorem heap_setCells_other (b k : Nat) (h : k ≠ b) : ∀ (l : List Value) (o : Nat) (w : World), (w.setCells b o l).heap[k]? = w.heap[k]?
  | [], _, _ => rfl
  | v :: l, o, w => (heap_setCells_other b k h l (o + 1) (w.setCell ⟨b, o, none⟩ v)).trans (heap_setCell_other _ _ _ _ h)

theorem three_new (w : World) (a b c : Value) (t : TypeId) : ∀ j u, [a, b, c][j]? = some u → (w.alloc (.cells #[a, b, c] t)).drew.cell? ((⟨w.heap.size, 0, none⟩ : Addr).add j) = some u := by
  intro j u hj
  match j, hj with
  | 0, hj => simp at hj; subst hj; simp [Addr.add]
  | 1, hj => simp at hj; subst hj; simp [Addr.add]
  | 2, hj => simp at hj; subst hj; simp [Addr.add]
  | j + 3, hj => simp at hj

theorem room_spare {w : World} {b n : Nat} {S : Nat → Value} (hS : w.rowIs b 61 (n * 3) S) (t : Nat) (ht : t < n) (o : Obj) (news : List Value) (hl : news.length = 3) :
    ∀ j, j < news.length → ((w.alloc o).drew.cell? ⟨b, 0 + t * 3 + j, none⟩).isSome = true ∧ (w.alloc o).drew.frozen? ⟨b, 0 + t * 3 + j, none⟩ = false := by
  intro j hj
  have h1 : (w.alloc o).cell? ⟨b, 0 + t * 3 + j, none⟩ = some (S (0 + t * 3 + j)) := (hS.alloc o).cell (by omega)
  have h2 : (w.alloc o).frozen? ⟨b, 0 + t * 3 + j, none⟩ = false := (hS.alloc o).frozen _
  exact ⟨by show ((w.alloc o).cell? _).isSome = true; rw [h1]; rfl, h2⟩

theorem foldr_undo (init : Int) (M0 : Int → Option Gran) (k : Int) : ∀ us : List Gran,
    ((∀ u ∈ us, u.1 ≠ k) → us.foldr (undo1 init) M0 k = M0 k) ∧
    ∀ (f : Nat), f < us.length → (us.getD f (0, 0, 0)).1 = k → (∀ j, j < f → (us.getD j (0, 0, 0)).1 ≠ k) → ∃ c, us.foldr (undo1 init) M0 k = some ((us.getD f (0, 0, 0)).2.1, (us.getD f (0, 0, 0)).2.2, c)
  | [] => ⟨fun _ => rfl, fun f hf => by simp at hf⟩
  | u :: us => by
    obtain ⟨h1, h2⟩ := foldr_undo init M0 k us
    refine ⟨fun h => ?_, fun f hf he hj => ?_⟩
    · rw [List.foldr_cons]
      unfold undo1 setM
      rw [if_neg (fun e => h u (by simp) e.symm)]
      exact h1 (fun v hv => h v (by simp [hv]))
    · rw [List.foldr_cons]
      unfold undo1 setM
      cases f with
      | zero =>
        simp at he
        rw [if_pos he.symm]
        exact ⟨_, rfl⟩
      | succ f =>
        have h0 := hj 0 (by omega)
        simp at h0
        rw [if_neg (fun e => h0 e.symm)]
        simp only [List.getD_cons_succ] at he ⊢
        exact h2 f (by simpa using hf) he (fun j hjf => by have := hj (j + 1) (by omega); simpa using this)

theorem none_of_not_first (us : List Gran) (t : Nat) (k : Int) (h : ¬ ∃ f, f < t ∧ (us.getD f (0, 0, 0)).1 = k ∧ ∀ i, i < f → (us.getD i (0, 0, 0)).1 ≠ k) : ∀ i, i < t → (us.getD i (0, 0, 0)).1 ≠ k := by
  intro i
  induction i using Nat.strongRecOn with
  | _ i ih =>
    intro hi he
    exact h ⟨i, hi, he, fun j hj => ih j hj (by omega)⟩

set_option maxRecDepth 100000 in
set_option maxHeartbeats 2000000 in
theorem undo_walk (a0 : Option Addr) (n cap0 : Nat) (G : Nat → Int) (a1 : Option Addr) (lr cap1 : Nat) (R : Nat → Int) (a2 : Option Addr) (lv cap2 : Nat) (V : Nat → Int) (init : Int) (w : World)
    (h0 : Ints .u8 w a0 n G) (hG : ∀ i, i < n → 0 ≤ G i ∧ G i ≤ 255) (h1 : Ints .i64 w a1 lr R) (h2 : Ints .i64 w a2 lv V) (hl1 : lr ≤ maxLen) (hl2 : lv ≤ maxLen) (hn : n ≤ 1024) :
    Calls Yba.prog 4 #[.slice a0 n cap0, .slice a1 lr cap1, .slice a2 lv cap2, .int .i64 init] w fun e w' => e = .returned (.bool true) ∧ Below w.heap.size w w' := by
  have hmk := make61 n hn
  have H0 : Hid _ := h0
  have HG : Hid _ := hG
  have H1 : Hid _ := h1
  have H2 : Hid _ := h2
  have HL1 : Hid _ := hl1
  have HL2 : Hid _ := hl2
  clear h0 hG h1 h2 hl1 hl2
  go_enter Yba.func4, Yba.ntmps4
  go_wp2_with (first | (refine wpList_build57 _ rfl _ rfl _ rfl ?_))
  go_loopg [10, 11] n (fun k v i wr => ∃ t : Nat, t + k = n ∧ v = .slice (some ⟨w.heap.size + 1, 0, none⟩) t n ∧ i = .int .i64 t ∧ Und w init n G R V lr lv t wr)
  case atStart => exact ⟨0, by omega, rfl, rfl, Und.start w init n G R V lr lv⟩
  case round =>
    clear hmk
    obtain ⟨t, ht, rfl, rfl, hU⟩ := hrel
    have hsz := hU.below.size
    by_cases htn : t < n
    · obtain ⟨b, off, rfl, hb, hc⟩ : ∃ b off, a0 = some ⟨b, off, none⟩ ∧ b < w.heap.size ∧ ∀ i, i < n → w.cell? ⟨b, off + i, none⟩ = some (.int .u8 (G i)) := by
        rcases (show Ints .u8 w a0 n G from H0.out) with h | h
        · omega
        · exact h
      obtain ⟨g0, g1⟩ := (show ∀ i, i < n → 0 ≤ G i ∧ G i ≤ 255 from HG.out) t htn
      have hx : wr.cell? ⟨b, off + t, none⟩ = some (.int .u8 (G t)) := (hU.below.cell (by exact hb)).trans (hc t htn)
      have HC1 : Hid (Ints .i64 wr a1 lr R) := (show Ints .i64 w a1 lr R from H1.out).below hU.below
      have HC2 : Hid (Ints .i64 wr a2 lv V) := (show Ints .i64 w a2 lv V from H2.out).below hU.below
      have hbw : b < wr.heap.size := by omega
      have hti0 : (0 : Int) ≤ (t : Int) := by omega
      have hti1 : (t : Int) < (n : Int) := by omega
      have HU : Hid (Und w init n G R V lr lv t wr) := hU
      obtain ⟨i0, hi, hz0, hz1, hz2⟩ := info_parts info61
      have HI : Hid (Yba.prog.info? 61 = some i0 ∧ i0.size = 3) := ⟨hi, hz1⟩
      have HSP : Hid (∀ x y z : Value, ∀ j, j < [x, y, z].length → ((wr.alloc (.cells #[x, y, z] 61)).drew.cell? ⟨w.heap.size + 1, 0 + t * 3 + j, none⟩).isSome = true ∧ (wr.alloc (.cells #[x, y, z] 61)).drew.frozen? ⟨w.heap.size + 1, 0 + t * 3 + j, none⟩ = false) := fun x y z => by
        obtain ⟨S, hS, _⟩ := hU.row
        exact room_spare hS t htn _ [x, y, z] rfl
      have HONE : Hid (∀ x y z : Int, ∀ u ∈ [Value.int .i64 x, .int .i64 y, .int .i64 z], u.oneCell' = true) := fun x y z u hu => by
        simp at hu; rcases hu with rfl | rfl | rfl <;> rfl
      clear hU hc hi hz0 hz1 hz2
      generalize hgx : G t = x at *
      have HX : Hid (G t = x) := hgx
      clear hgx
      have hwk : IntKind.i64.wrap (IntKind.i64.wrap (x.tmod 16) - 4) = x % 16 - 4 := by
        rw [Int.tmod_eq_emod_of_nonneg g0, IntKind.wrap_i64, IntKind.wrap_i64]; omega
      have HKS : Hid (∀ (o : Obj) (l : List Value), ((wr.alloc o).drew.setCells (w.heap.size + 1) (0 + t * 3) l).cell? ⟨b, off + t, none⟩ = some (.int .u8 x)) := fun o l => by
        rw [World.cell?_of_block (w := wr) (a := ⟨b, off + t, none⟩) (by rw [heap_setCells_other _ _ (by show b ≠ w.heap.size + 1; omega), heap_drew, heap_alloc_if, if_neg (by show ¬ b = _; omega)])]
        exact hx
      go_wp2
      go_region_held3 (fun w' => w'.cell? ⟨b, off + t, none⟩ = some (.int .u8 x)) (first | exact HKS.out _ _ | go_keep)
        (first | (go_at_call_of 7 (Value.slice a1 lr cap1); refine (cat_any a1 lr cap1 t R _ (by exact HC1.out) HL1.out (by omega)).mono ?_; rintro e w' ⟨rfl, rfl⟩) | (go_at_call_of 7 (Value.slice a2 lv cap2); refine (cat_any a2 lv cap2 t V _ (by exact HC2.out) HL2.out (by omega)).mono ?_; rintro e w' ⟨rfl, rfl⟩) | (refine step_append_room (by rfl) _ _ 58 (by rfl) 61 i0 3 Yba.underlying58 HI.out.1 HI.out.2 (w.heap.size + 1) 0 t n (by rfl) ⟨wr.heap.size, 0, none⟩ 1 1 [.int .i64 (x % 16 - 4), .int .i64 (at0 R lr t), .int .i64 (at0 V lv t)] (by rfl) (by rfl) (by exact three_new _ _ _ _ _) (by exact HONE.out _ _ _) (by exact htn) (by exact HSP.out _ _ _) ?_))
      have hU2 := (show Und w init n G R V lr lv t wr from HU.out).step htn (.cells #[.int .i64 (x % 16 - 4), .int .i64 (at0 R lr t), .int .i64 (at0 V lv t)] 61)
      rw [show G t = x from HX.out] at hU2
      generalize (wr.alloc (.cells #[.int .i64 (x % 16 - 4), .int .i64 (at0 R lr t), .int .i64 (at0 V lv t)] 61)).drew.setCells (w.heap.size + 1) (0 + t * 3) [.int .i64 (x % 16 - 4), .int .i64 (at0 R lr t), .int .i64 (at0 V lv t)] = w2 at *
      have HU2 : Hid (Und w init n G R V lr lv (t + 1) w2) := hU2
      clear hU2 HKS
      go_wp2
      go_roundg (gk - 1)
      case measure => omega
      case rel => exact ⟨t + 1, by omega, rfl, by go_num, HU2.out⟩
    · have htn' : t = n := by omega
      have hRec := Rec.new hU.hr
      obtain ⟨S, hS, hs⟩ := hU.row
      have hl := lt_of_heap hU.hr
      have hl2 := hS.lt
      have husl := usOf_len n G R V lr lv
      have hU3 : Undo wr (w.heap.size + 1) (usOf n G R V lr lv) := by
        intro i hi
        rw [husl] at hi
        rw [usOf_at n G R V lr lv i hi]
        obtain ⟨x0, x1, x2⟩ := hs i (by omega)
        obtain ⟨q0, q1⟩ := (show ∀ i, i < n → 0 ≤ G i ∧ G i ≤ 255 from HG.out) i hi
        refine ⟨by show -4 ≤ _ ∧ _ < (16 : Int); omega, ?_, ?_, ?_⟩
        · exact (hS.cell (by omega)).trans (congrArg some x0)
        · exact (hS.cell (by omega)).trans (congrArg some x1)
        · exact (hS.cell (by omega)).trans (congrArg some x2)
      have HRec : Hid (Rec w.heap.size init (fun _ => none) (fun _ => 0) wr) := hRec
      have HU3 : Hid (Undo wr (w.heap.size + 1) (usOf n G R V lr lv)) := hU3
      have HB : Hid (Below w.heap.size w wr) := hU.below
      have HUL : Hid ((usOf n G R V lr lv).length = n) := husl
      clear hRec hU3 husl hS hs hU
      subst htn'
      clear H0 H1 H2
      obtain ⟨us, hus⟩ : ∃ us, us = usOf t G R V lr lv := ⟨_, rfl⟩
      rw [← hus] at HU3 HUL
      have hown0 : ∀ b, own w.heap.size (fun _ => none) (fun _ => 0) b → b = w.heap.size := by
        rintro b (h | ⟨k, _, h, _⟩)
        · exact h
        · exact absurd rfl h
      have HOWN : Hid (∀ b, own w.heap.size (fun _ => none) (fun _ => 0) b → b = w.heap.size) := hown0
      clear hus hown0
      go_wp2_with fail
      refine (restart_any wr.heap.size (w.heap.size + 1) w.heap.size t t init us (fun _ => none) (fun _ => 0) _ _ _ _ _ _ ((show Rec w.heap.size init (fun _ => none) (fun _ => 0) wr from HRec.out).alloc _) HUL.out (Nat.le_refl _) (by omega) (heap_alloc_new _ _)
        (fun i hi => by obtain ⟨x0, x1, x2, x3⟩ := (show Undo wr (w.heap.size + 1) us from HU3.out) i hi; exact ⟨x0, (World.cell?_alloc_lt _ _ _ (by exact hl2)).trans x1, (World.cell?_alloc_lt _ _ _ (by exact hl2)).trans x2, (World.cell?_alloc_lt _ _ _ (by exact hl2)).trans x3⟩)
        (fun ho => by have := (show ∀ b, own w.heap.size (fun _ => none) (fun _ => 0) b → b = w.heap.size from HOWN.out) _ ho; omega) (fun ho => by have := (show ∀ b, own w.heap.size (fun _ => none) (fun _ => 0) b → b = w.heap.size from HOWN.out) _ ho; omega) (fun _ => by simp; omega)).mono ?_
      rintro e w2 ⟨rfl, B2, hR2, hO2, _⟩
      have hU4 : Undo w2 (w.heap.size + 1) us := fun i hi => by
        obtain ⟨x0, x1, x2, x3⟩ := (show Undo wr (w.heap.size + 1) us from HU3.out) i hi
        have hno : ¬ own w.heap.size (fun _ => none) (fun _ => 0) (w.heap.size + 1) := fun ho => by have := (show ∀ b, own w.heap.size (fun _ => none) (fun _ => 0) b → b = w.heap.size from HOWN.out) _ ho; omega
        exact ⟨x0, hO2.cell hno ((World.cell?_alloc_lt _ _ _ (by exact hl2)).trans x1), hO2.cell hno ((World.cell?_alloc_lt _ _ _ (by exact hl2)).trans x2), hO2.cell hno ((World.cell?_alloc_lt _ _ _ (by exact hl2)).trans x3)⟩
      have hB2 : Below w.heap.size w w2 := ((show Below w.heap.size w wr from HB.out).alloc hsz _).trans (hO2.below (by simp; omega) (fun b hb => by have := (show ∀ b, own w.heap.size (fun _ => none) (fun _ => 0) b → b = w.heap.size from HOWN.out) _ hb; omega))
      obtain ⟨M, hM⟩ : ∃ M, M = us.foldr (undo1 init) (fun _ => none) := ⟨_, rfl⟩
      rw [← hM] at hR2
      have hM0 : ∀ k, (∀ i, i < t → (us.getD i (0, 0, 0)).1 ≠ k) → M k = none := fun k h => by
        rw [hM]
        refine (foldr_undo init (fun _ => none) k us).1 (fun u hu => ?_)
        obtain ⟨i, hi, rfl⟩ := List.getElem_of_mem hu
        have := h i (by rw [← show us.length = t from HUL.out]; exact hi)
        rwa [List.getD_eq_getElem?_getD, List.getElem?_eq_getElem hi, Option.getD_some] at this
      have hM1 : ∀ k f, f < t → (us.getD f (0, 0, 0)).1 = k → (∀ j, j < f → (us.getD j (0, 0, 0)).1 ≠ k) → ∃ c, M k = some ((us.getD f (0, 0, 0)).2.1, (us.getD f (0, 0, 0)).2.2, c) := fun k f hf he hj => by
        rw [hM]
        exact (foldr_undo init (fun _ => none) k us).2 f (by rw [show us.length = t from HUL.out]; exact hf) he hj
      have HR2 : Hid (Rec w.heap.size init M B2 w2) := hR2
      have HU4 : Hid (Undo w2 (w.heap.size + 1) us) := hU4
      have HB2 : Hid (Below w.heap.size w w2) := hB2
      have HM0 : Hid (∀ k, (∀ i, i < t → (us.getD i (0, 0, 0)).1 ≠ k) → M k = none) := hM0
      have HM1 : Hid (∀ k f, f < t → (us.getD f (0, 0, 0)).1 = k → (∀ j, j < f → (us.getD j (0, 0, 0)).1 ≠ k) → ∃ c, M k = some ((us.getD f (0, 0, 0)).2.1, (us.getD f (0, 0, 0)).2.2, c)) := hM1
      have hw2 : w.heap.size + 1 < w2.heap.size := by have := hO2.size; simp at this; omega
      clear hR2 hU4 hB2 hM0 hM1 hM hO2 HU3 HB HRec HOWN hsz hl hl2
      go_wp2
      go_loopg [13] 16 (fun k v wr => ∃ j : Nat, j + k = 16 ∧ v = .int .i64 ((j : Int) - 4) ∧ Only (fun _ => False) w2 wr)
      case atStart => exact ⟨0, by omega, rfl, Only.refl _ _⟩
      case round =>
        obtain ⟨j, hj, rfl, hO3⟩ := hrel
        by_cases hj16 : j < 16
        · obtain ⟨k, hk⟩ : ∃ k : Int, k = (j : Int) - 4 := ⟨_, rfl⟩
          have hK : K k := by unfold K; omega
          rw [← hk]
          have hk1 : k < 12 := by omega
          have hk2 : -4 ≤ k := by omega
          obtain ⟨g1, hg1⟩ : ∃ g1, gk = g1 + 1 := ⟨gk - 1, by omega⟩
          have HJ : Hid (k = (j : Int) - 4 ∧ gk = g1 + 1) := ⟨hk, hg1⟩
          clear hk hg1
          rcases Classical.em (∃ f, f < t ∧ (us.getD f (0, 0, 0)).1 = k ∧ ∀ i, i < f → (us.getD i (0, 0, 0)).1 ≠ k) with hfound | hnot
          · obtain ⟨f, hf, hfk, hfj⟩ := hfound
            obtain ⟨c, hMk⟩ := (show ∀ k f, f < t → (us.getD f (0, 0, 0)).1 = k → (∀ j, j < f → (us.getD j (0, 0, 0)).1 ≠ k) → ∃ c, M k = some ((us.getD f (0, 0, 0)).2.1, (us.getD f (0, 0, 0)).2.2, c) from HM1.out) k f hf hfk hfj
            obtain ⟨w3, hw3⟩ : ∃ w3 : World, w3 = wr := ⟨_, rfl⟩
            subst hw3
            have hR3 := (show Rec w.heap.size init M B2 w2 from HR2.out).only hO3 (fun _ _ h => h)
            have hU5 : Undo w3 (w.heap.size + 1) us := fun i hi => by
              obtain ⟨x0, x1, x2, x3⟩ := (show Undo w2 (w.heap.size + 1) us from HU4.out) i hi
              exact ⟨x0, hO3.cell (fun h => h) x1, hO3.cell (fun h => h) x2, hO3.cell (fun h => h) x3⟩
            have HR3 : Hid (Rec w.heap.size init M B2 w3) := hR3
            have HU5 : Hid (Undo w3 (w.heap.size + 1) us) := hU5
            have HO3 : Hid (Only (fun _ => False) w2 w3) := hO3
            have HFJ : Hid ((us.getD f (0, 0, 0)).1 = k ∧ ∀ j, j < f → (us.getD j (0, 0, 0)).1 ≠ k) := ⟨hfk, hfj⟩
            have HMK : Hid (M k = some ((us.getD f (0, 0, 0)).2.1, (us.getD f (0, 0, 0)).2.2, c)) := hMk
            have HK : Hid (K k) := hK
            have hbu : w.heap.size + 1 < w3.heap.size := by have := hO3.size; omega
            clear hR3 hU5 hO3 hfk hfj hMk hK HM0 HM1
            go_wp2
            go_loopg [14, 15] f (fun q v i wl => ∃ s : Nat, s + q = f ∧ v = .int .i64 (-1) ∧ i = .int .i64 s ∧ w3 = wl)
            case atStart => exact ⟨0, by omega, rfl, rfl, rfl⟩
            case round =>
              obtain ⟨s, hs, rfl, rfl, hw⟩ := hrel
              subst hw
              have hx := ((show Undo w3 (w.heap.size + 1) us from HU5.out) s (by rw [show us.length = t from HUL.out]; omega)).2.1
              by_cases hsf : s < f
              · have hne := (show (us.getD f (0, 0, 0)).1 = k ∧ ∀ j, j < f → (us.getD j (0, 0, 0)).1 ≠ k from HFJ.out).2 s hsf
                generalize hgy : (us.getD s (0, 0, 0)).1 = y at *
                clear hgy
                have hneb : (y == k) = false := by simpa using hne
                clear hne
                go_wp2
                go_roundg (gk - 1)
                case measure => omega
                case rel => exact ⟨s + 1, by omega, rfl, by go_num, rfl⟩
              · obtain rfl : s = f := by omega
                obtain ⟨_, y0, y1, y2⟩ := (show Undo w3 (w.heap.size + 1) us from HU5.out) s (by rw [show us.length = t from HUL.out]; omega)
                rw [(show (us.getD s (0, 0, 0)).1 = k ∧ ∀ j, j < s → (us.getD j (0, 0, 0)).1 ≠ k from HFJ.out).1] at hx y0
                generalize (us.getD s (0, 0, 0)).2.1 = rp at *
                generalize (us.getD s (0, 0, 0)).2.2 = vl at *
                clear HFJ
                go_wp2_with fail
                refine (shard_any k HK.out w.heap.size 5 _).mono ?_
                rintro e w4 ⟨rfl, n4, rfl⟩
                go_wp2_with fail
                refine (get_any k HK.out w.heap.size init M B2 _ ((show Rec w.heap.size init M B2 w3 from HR3.out).drewN n4)).mono ?_
                rintro e w5 ⟨rfl, hO5⟩
                rw [show M k = _ from HMK.out]
                simp only [granV, Option.isSome_some]
                have z1 : w5.cell? ⟨w.heap.size + 1, s * 3 + 1, none⟩ = some (.int .i64 rp) := hO5.cell (fun h => h) y1
                have z2 : w5.cell? ⟨w.heap.size + 1, s * 3 + 2, none⟩ = some (.int .i64 vl) := hO5.cell (fun h => h) y2
                have hbu5 : w.heap.size + 1 < w5.heap.size := World.block_lt_of_cell? _ _ z1
                have HO5 : Hid (Only (fun _ => False) w2 w5) := ((show Only (fun _ => False) w2 w3 from HO3.out).drewN n4).trans hO5 (fun b hb => .inl hb)
                clear hO5 hx y0 y1 y2
                go_wp2
                go_quiet (fail)
                go_wp2
                go_roundg g1
                case measure => have := (HJ.out).2; omega
                case rel => exact ⟨j + 1, by have := (HJ.out).2; omega, by have := (HJ.out).1; go_num, ((show Only (fun _ => False) w2 w5 from HO5.out).alloc _).drewN _⟩
          · have hall := none_of_not_first us t k hnot
            have hMk := (show ∀ k, (∀ i, i < t → (us.getD i (0, 0, 0)).1 ≠ k) → M k = none from HM0.out) k hall
            obtain ⟨w3, hw3⟩ : ∃ w3 : World, w3 = wr := ⟨_, rfl⟩
            subst hw3
            have hR3 := (show Rec w.heap.size init M B2 w2 from HR2.out).only hO3 (fun _ _ h => h)
            have hU5 : Undo w3 (w.heap.size + 1) us := fun i hi => by
              obtain ⟨x0, x1, x2, x3⟩ := (show Undo w2 (w.heap.size + 1) us from HU4.out) i hi
              exact ⟨x0, hO3.cell (fun h => h) x1, hO3.cell (fun h => h) x2, hO3.cell (fun h => h) x3⟩
            have HR3 : Hid (Rec w.heap.size init M B2 w3) := hR3
            have HU5 : Hid (Undo w3 (w.heap.size + 1) us) := hU5
            have HO3 : Hid (Only (fun _ => False) w2 w3) := hO3
            have HFJ : Hid (∀ i, i < t → (us.getD i (0, 0, 0)).1 ≠ k) := hall
            have HMK : Hid (M k = none) := hMk
            have HK : Hid (K k) := hK
            have hbu : w.heap.size + 1 < w3.heap.size := by have := hO3.size; omega
            clear hR3 hU5 hO3 hall hMk hK HM0 HM1 hnot
            go_wp2
            go_loopg [14, 15] t (fun q v i wl => ∃ s : Nat, s + q = t ∧ v = .int .i64 (-1) ∧ i = .int .i64 s ∧ w3 = wl)
            case atStart => exact ⟨0, by omega, rfl, rfl, rfl⟩
            case round =>
              obtain ⟨s, hs, rfl, rfl, hw⟩ := hrel
              subst hw
              by_cases hsf : s < t
              · have hx := ((show Undo w3 (w.heap.size + 1) us from HU5.out) s (by rw [show us.length = t from HUL.out]; omega)).2.1
                have hne := (show ∀ i, i < t → (us.getD i (0, 0, 0)).1 ≠ k from HFJ.out) s hsf
                generalize hgy : (us.getD s (0, 0, 0)).1 = y at *
                clear hgy
                have hneb : (y == k) = false := by simpa using hne
                clear hne
                go_wp2
                go_roundg (gk - 1)
                case measure => omega
                case rel => exact ⟨s + 1, by omega, rfl, by go_num, rfl⟩
              · go_wp2_with fail
                refine (shard_any k HK.out w.heap.size 5 _).mono ?_
                rintro e w4 ⟨rfl, n4, rfl⟩
                go_wp2_with fail
                refine (get_any k HK.out w.heap.size init M B2 _ ((show Rec w.heap.size init M B2 w3 from HR3.out).drewN n4)).mono ?_
                rintro e w5 ⟨rfl, hO5⟩
                rw [show M k = _ from HMK.out]
                simp only [granV, Option.isSome_none]
                have HO5 : Hid (Only (fun _ => False) w2 w5) := ((show Only (fun _ => False) w2 w3 from HO3.out).drewN n4).trans hO5 (fun b hb => .inl hb)
                clear hO5
                go_wp2
                go_roundg g1
                case measure => have := (HJ.out).2; omega
                case rel => exact ⟨j + 1, by have := (HJ.out).2; omega, by have := (HJ.out).1; go_num, ((show Only (fun _ => False) w2 w5 from HO5.out).alloc _)⟩
        · have HF : Hid (Below w.heap.size w wr) := (show Below w.heap.size w w2 from HB2.out).trans (hO3.below (by omega) (fun b hb => hb.elim))
          clear hO3
          go_wp2
          go_ret
          exact ⟨rfl, HF.out⟩
end Go.Proofs.Ybulkaqgy.Rec

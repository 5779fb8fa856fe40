/-
  What record.LawS2091CRoundTrip keeps in memory, and what the two attempts do, plainly.
-/
import Derived.Test.YbulkaqgyRecAccess
namespace Go.Proofs.Ybulkaqgy.Rec
open Go.RowKit Go.Deep
set_option linter.unusedVariables false

/-! ### The rows of accesses -/
theorem info82 : (Yba.prog.info? 82).map (fun i => (i.zero, i.size, i.bytes)) = some (some (.agg #[.int .i64 0, .bool false, .int .i64 0]), 3, 24) := by kernel_rfl
def accMade (n : Nat) : Array Value := madeCells #[.int .i64 0, .bool false, .int .i64 0] (n * 3)
theorem make82 (n : Nat) (hn : n ≤ 1024) (w : World) : (Instr.makeSlice 80 (.int .i64 0) (.int .i64 (n : Int))).run Yba.prog w = .ok (.slice (some ⟨w.heap.size, 0, none⟩) 0 n) (w.alloc (.cells (accMade n) 82)) := by
  obtain ⟨i0, hi, hz0, hz1, hz2⟩ := info_parts info82
  have h := run_make (P := Yba.prog) w 80 82 i0 _ Yba.underlying80 hi hz0 .i64 .i64 0 (n : Int) (by omega) (by omega) (by rw [hz2]; omega) (by omega)
  rw [hz1] at h
  exact h

/-- the granule of access i -/
def kO (W : Nat → Int) (i : Nat) : Nat := (W i % 16).toNat
theorem kO_lt (W : Nat → Int) (i : Nat) : kO W i < 16 := by unfold kO; omega
theorem kO_eq (W : Nat → Int) (i : Nat) : W i % 16 = (kO W i : Int) := by unfold kO; omega
theorem K_of_lt {j : Nat} (h : j < 16) : K (j : Int) := by unfold K; omega

def accL (W : Nat → Int) (t : Nat) : List Value := (List.range t).flatMap fun i => [.int .i64 (kO W i), .bool true, .int .i64 0]
theorem accL_succ (W : Nat → Int) (t : Nat) : accL W (t + 1) = accL W t ++ [.int .i64 (kO W t), .bool true, .int .i64 0] := by simp [accL, List.range_succ]
theorem triple_get (L : List Value) (a b c : Value) (t : Nat) (hl : L.length = t * 3) : (L ++ [a, b, c])[t * 3]? = some a ∧ (L ++ [a, b, c])[t * 3 + 1]? = some b ∧ (L ++ [a, b, c])[t * 3 + 2]? = some c := by
  refine ⟨?_, ?_, ?_⟩
  · rw [List.getElem?_append_right (by omega), hl, Nat.sub_self]; rfl
  · rw [List.getElem?_append_right (by omega), hl, show t * 3 + 1 - t * 3 = 1 from by omega]; rfl
  · rw [List.getElem?_append_right (by omega), hl, show t * 3 + 2 - t * 3 = 2 from by omega]; rfl
theorem accL_len (W : Nat → Int) (t : Nat) : (accL W t).length = t * 3 := by
  induction t with
  | zero => rfl
  | succ t ih => rw [accL_succ, List.length_append, ih]; simp; omega
theorem accL_get (W : Nat → Int) : ∀ t i, i < t → (accL W t)[i * 3]? = some (.int .i64 (kO W i)) ∧ (accL W t)[i * 3 + 1]? = some (.bool true) ∧ (accL W t)[i * 3 + 2]? = some (.int .i64 0) := by
  intro t
  induction t with
  | zero => intro i hi; omega
  | succ t ih =>
    intro i hi
    have hl := accL_len W t
    rw [accL_succ]
    by_cases h : i = t
    · subst h; exact triple_get _ _ _ _ _ hl
    · obtain ⟨h0, h1, h2⟩ := ih i (by omega)
      exact ⟨by rw [List.getElem?_append_left (by omega)]; exact h0, by rw [List.getElem?_append_left (by omega)]; exact h1, by rw [List.getElem?_append_left (by omega)]; exact h2⟩

theorem usCells_len (us : List Gran) : (usCells us).length = us.length * 3 := by
  induction us with
  | nil => rfl
  | cons u us ih => simp [usCells] at ih ⊢; omega
theorem usCells_get : ∀ (us : List Gran) (i : Nat), i < us.length → (usCells us)[i * 3]? = some (.int .i64 (us.getD i (0, 0, 0)).1) ∧ (usCells us)[i * 3 + 1]? = some (.int .i64 (us.getD i (0, 0, 0)).2.1) ∧ (usCells us)[i * 3 + 2]? = some (.int .i64 (us.getD i (0, 0, 0)).2.2)
  | [], i, hi => by simp at hi
  | u :: us, 0, _ => ⟨rfl, rfl, rfl⟩
  | u :: us, i + 1, hi => by
    obtain ⟨h0, h1, h2⟩ := usCells_get us i (by simpa using hi)
    have e : ∀ j, (usCells (u :: us))[j + 3]? = (usCells us)[j]? := fun j => by simp [usCells]
    exact ⟨by rw [show (i + 1) * 3 = i * 3 + 3 from by omega, e]; exact h0, by rw [show (i + 1) * 3 + 1 = i * 3 + 1 + 3 from by omega, e]; exact h1, by rw [show (i + 1) * 3 + 2 = i * 3 + 2 + 3 from by omega, e]; exact h2⟩

/-- the row of accesses while it is filled -/
structure AccRow (w1 : World) (bc n : Nat) (W : Nat → Int) (t : Nat) (wr : World) : Prop where
  only : Only (fun _ => False) w1 wr
  lb : w1.heap.size ≤ bc
  row : wr.ownsRow 0 82 3 (.slice (some ⟨bc, 0, none⟩) t n) t (accL W t)

theorem AccRow.start (w1 : World) (bc n : Nat) (hbc : bc = w1.heap.size) (hn : n ≤ 1024) (W : Nat → Int) : AccRow w1 bc n W 0 (w1.alloc (.cells (accMade n) 82)) := by
  subst hbc
  exact ⟨(Only.refl _ w1).alloc _, Nat.le_refl _, World.ownsRow_made w1 _ n (Nat.zero_le _) (by unfold maxLen; omega) (size_madeCells _ _)⟩

theorem AccRow.cells {w1 : World} {bc n : Nat} {W : Nat → Int} {t : Nat} {wr : World} (h : AccRow w1 bc n W t wr) (i : Nat) (hi : i < t) :
    wr.cell? ⟨bc, i * 3, none⟩ = some (.int .i64 (kO W i)) ∧ wr.cell? ⟨bc, i * 3 + 1, none⟩ = some (.bool true) ∧ wr.cell? ⟨bc, i * 3 + 2, none⟩ = some (.int .i64 0) := by
  obtain ⟨h0, h1, h2⟩ := accL_get W t i hi
  have hc := h.row.cells (g := bc) rfl
  have e : ∀ j, (⟨bc, 0, none⟩ : Addr).add j = ⟨bc, j, none⟩ := fun j => by rw [Addr.add_lit, Nat.zero_add]
  exact ⟨by rw [← e]; exact hc _ _ h0, by rw [← e]; exact hc _ _ h1, by rw [← e]; exact hc _ _ h2⟩

theorem AccRow.step {w1 : World} {bc n : Nat} {W : Nat → Int} {t : Nat} {wr w' : World} {o : Obj} (h : AccRow w1 bc n W t wr)
    (hown : w'.ownsRow 0 82 3 (.slice (some ⟨bc, 0, none⟩) (t + 1) n) (t + 1) (accL W t ++ [.int .i64 (kO W t), .bool true, .int .i64 0])) (hg : (wr.alloc o).grownBy w' (some bc)) : AccRow w1 bc n W (t + 1) w' := by
  refine ⟨?_, h.lb, by rw [accL_succ]; exact hown⟩
  refine (h.only.alloc o).trans (own' := fun b => b = bc) ⟨hg.os, hg.tape, hg.output, hg.size, fun c hc hn => hg.block c hc (fun e => hn (Option.some.inj e))⟩ (fun b hb => .inr (by have := h.lb; omega))

/-! ### The Recorder, the marks and an Attempt -/

/-- The Recorder in block h, the two rows of marks in h + 1, h + 2, the row of values in h + 3. -/
structure Tr (h : Nat) (init : Int) (M : Int → Option Gran) (B : Int → Nat) (tc1 tc2 : Nat → Bool) (vl : Nat → Int) (wr : World) : Prop where
  rc : Rec h init M B wr
  r1 : wr.rowIs (h + 1) 78 16 (fun j => .bool (tc1 j))
  r2 : wr.rowIs (h + 1 + 1) 78 16 (fun j => .bool (tc2 j))
  r3 : wr.rowIs (h + 1 + 1 + 1) 79 16 (fun j => .int .i64 (vl j))
  far : ∀ b, own h M B b → b = h ∨ h + 4 ≤ b

/-- What may turn without the Recorder and the marks turning. -/
theorem Tr.only {h : Nat} {init : Int} {M : Int → Option Gran} {B : Int → Nat} {tc1 tc2 : Nat → Bool} {vl : Nat → Int} {w w' : World} {o : Nat → Prop} (H : Tr h init M B tc1 tc2 vl w) (hO : Only o w w')
    (hd : ∀ b, o b → h + 4 ≤ b ∧ ¬ own h M B b) : Tr h init M B tc1 tc2 vl w' :=
  ⟨H.rc.only hO (fun b hb ho => (hd b ho).2 hb), hO.rowIs H.r1 (fun ho => by have := (hd _ ho).1; omega), hO.rowIs H.r2 (fun ho => by have := (hd _ ho).1; omega), hO.rowIs H.r3 (fun ho => by have := (hd _ ho).1; omega), H.far⟩

structure AtM (h ba bt bc n : Nat) (id : Int) (W : Nat → Int) (M : Int → Option Gran) (B : Int → Nat) (uv : Value) (us : List Gran) (wr : World) : Prop where
  hat : AtIs wr ba h bt id uv
  txn : wr.cell? ⟨bt, 0, none⟩ = some (.slice (some ⟨bc, 0, none⟩) n n)
  acc : ∀ i, i < n → wr.cell? ⟨bc, i * 3, none⟩ = some (.int .i64 (kO W i)) ∧ wr.cell? ⟨bc, i * 3 + 1, none⟩ = some (.bool true) ∧ wr.cell? ⟨bc, i * 3 + 2, none⟩ = some (.int .i64 0)
  row : wr.ownsRow 0 61 3 uv us.length (usCells us)
  na : ¬ own h M B ba
  nt : ¬ own h M B bt
  nc : ¬ own h M B bc
  nu : ∀ b, uv.ownBlock = some b → ¬ own h M B b ∧ b ≠ ba ∧ b ≠ bt ∧ b ≠ bc
  at_ : ba ≠ bt
  ac : ba ≠ bc
  la : h + 4 ≤ ba
  lt : h + 4 ≤ bt
  lc : h + 4 ≤ bc
  lu : ∀ b, uv.ownBlock = some b → h + 4 ≤ b
  lcs : bc < wr.heap.size

theorem AtM.only {h ba bt bc n : Nat} {id : Int} {W : Nat → Int} {M : Int → Option Gran} {B : Int → Nat} {uv : Value} {us : List Gran} {w w' : World} {o : Nat → Prop} (H : AtM h ba bt bc n id W M B uv us w) (hO : Only o w w')
    (ha : ¬ o ba) (ht : ¬ o bt) (hc : ¬ o bc) (hu : ∀ b, uv.ownBlock = some b → ¬ o b) : AtM h ba bt bc n id W M B uv us w' :=
  { H with
    hat := (hO.block ba (lt_of_heap H.hat) ha).trans H.hat
    txn := hO.cell ht H.txn
    acc := fun i hi => ⟨hO.cell hc (H.acc i hi).1, hO.cell hc (H.acc i hi).2.1, hO.cell hc (H.acc i hi).2.2⟩
    row := hO.ownsRow H.row hu
    lcs := Nat.lt_of_lt_of_le H.lcs hO.size }

/-- One access: what the contract leaves, in these words. -/
theorem access_step {h ba bt bc n i : Nat} {init id v : Int} {W : Nat → Int} {M : Int → Option Gran} {B : Int → Nat} {tc1 tc2 : Nat → Bool} {vl : Nat → Int} {uv : Value} {us : List Gran} {w : World}
    (T : Tr h init M B tc1 tc2 vl w) (A : AtM h ba bt bc n id W M B uv us w) (hi : i < n) (hn : n ≤ 1024) (hus : us.length ≤ 1024)
    (hins : 0 ≤ (inst init (M (kO W i))).2.2 ∧ (inst init (M (kO W i))).2.2 ≤ 4096) :
    Calls Yba.prog 11 #[.pointer (some ⟨ba, 0, none⟩), .agg #[.int .i64 1, .int .i64 (i : Int)], .int .i64 v] w fun e w' => e = .returned (.int .i64 v) ∧ ∃ B' uv',
      Tr h init (setM M (kO W i) (id, v, (inst init (M (kO W i))).2.2 + 1)) B' tc1 tc2 vl w' ∧
      AtM h ba bt bc n id W (setM M (kO W i) (id, v, (inst init (M (kO W i))).2.2 + 1)) B' uv' (us ++ [((kO W i : Int), (inst init (M (kO W i))).1, (inst init (M (kO W i))).2.1)]) w' ∧
      Only (fun b => h ≤ b) w w' ∧ (∀ b, own h (setM M (kO W i) (id, v, (inst init (M (kO W i))).2.2 + 1)) B' b → own h M B b ∨ w.heap.size ≤ b) := by
  obtain ⟨e0, e1, e2⟩ := A.acc i hi
  refine (access_any ba h bt bc n i id init v (kO W i) (K_of_lt (kO_lt W i)) M B uv us w T.rc A.hat A.txn hi hn e0 e1 e2 A.row hus hins A.na A.nt A.nc A.nu).mono ?_
  rintro e w' ⟨rfl, B', uv', hR, hAt, hrow, hO, hs, hu⟩
  have hsz := hO.size
  have lba : ba < w.heap.size := lt_of_heap A.hat
  have lbt : bt < w.heap.size := World.block_lt_of_cell? _ _ A.txn
  have lbr : h < w.heap.size := T.rc.lt (.inl rfl)
  have l3 := T.r3.lt
  have lrow : ∀ b, uv.ownBlock = some b → b < w.heap.size := fun b hb => (A.row.lt b hb).2
  -- which of the old blocks may have turned
  have hturn : ∀ b, (own h M B b ∨ b = ba ∨ uv.ownBlock = some b) → b = h ∨ h + 4 ≤ b := fun b hb => by
    rcases hb with hb | rfl | hb
    · exact T.far b hb
    · exact .inr A.la
    · exact .inr (A.lu b hb)
  have hno : ∀ b, h < b → b < h + 4 → ¬ (own h M B b ∨ b = ba ∨ uv.ownBlock = some b) := fun b h1 h2 hb => by rcases hturn b hb with h3 | h3 <;> omega
  have nba : ¬ own h (setM M (kO W i) (id, v, (inst init (M (kO W i))).2.2 + 1)) B' ba := fun ho => by rcases hs _ ho with h1 | h1; exact A.na h1; omega
  have nbt : ¬ own h (setM M (kO W i) (id, v, (inst init (M (kO W i))).2.2 + 1)) B' bt := fun ho => by rcases hs _ ho with h1 | h1; exact A.nt h1; omega
  have nbc : ¬ own h (setM M (kO W i) (id, v, (inst init (M (kO W i))).2.2 + 1)) B' bc := fun ho => by rcases hs _ ho with h1 | h1; exact A.nc h1; have := A.lcs; omega
  refine ⟨rfl, B', uv', ⟨hR, hO.rowIs T.r1 (hno _ (by omega) (by omega)), hO.rowIs T.r2 (hno _ (by omega) (by omega)), hO.rowIs T.r3 (hno _ (by omega) (by omega)), ?_⟩, ?_, ?_, hs⟩
  · intro b hb
    rcases hs b hb with h1 | h1
    · exact T.far b h1
    · right; omega
  · have tc : ¬ (own h M B bt ∨ bt = ba ∨ uv.ownBlock = some bt) := fun hb => by
      rcases hb with h1 | h1 | h1
      · exact A.nt h1
      · exact A.at_ h1.symm
      · exact (A.nu bt h1).2.2.1 rfl
    have cc : ¬ (own h M B bc ∨ bc = ba ∨ uv.ownBlock = some bc) := fun hb => by
      rcases hb with h1 | h1 | h1
      · exact A.nc h1
      · exact A.ac h1.symm
      · exact (A.nu bc h1).2.2.2 rfl
    refine ⟨hAt, hO.cell tc A.txn, fun j hj => ⟨hO.cell cc (A.acc j hj).1, hO.cell cc (A.acc j hj).2.1, hO.cell cc (A.acc j hj).2.2⟩, ?_, nba, nbt, nbc, ?_, A.at_, A.ac, A.la, A.lt, A.lc, ?_, Nat.lt_of_lt_of_le A.lcs hsz⟩
    · simpa using hrow
    · intro b hb
      obtain ⟨h1, h2⟩ := hu b hb
      refine ⟨h2, ?_⟩
      rcases h1 with h1 | h1
      · exact (A.nu b h1).2
      · exact ⟨by omega, by omega, by have := A.lcs; omega⟩
    · intro b hb
      rcases (hu b hb).1 with h1 | h1
      · exact A.lu b h1
      · omega
  · refine hO.wider (fun b hb => ?_)
    rcases hturn b hb with h1 | h1 <;> omega

/-- a mark of attempt 1 and its value -/
theorem Tr.mark1 {h : Nat} {init : Int} {M : Int → Option Gran} {B : Int → Nat} {tc1 tc2 : Nat → Bool} {vl : Nat → Int} {w : World} (H : Tr h init M B tc1 tc2 vl w) (j : Nat) (v : Int) :
    Tr h init M B (fun i => if i = j then true else tc1 i) tc2 (fun i => if i = j then v else vl i) ((w.setCell ⟨h + 1, j, none⟩ (.bool true)).setCell ⟨h + 1 + 1 + 1, j, none⟩ (.int .i64 v)) := by
  have hO : Only (fun b => b = h + 1 ∨ b = h + 1 + 1 + 1) w ((w.setCell ⟨h + 1, j, none⟩ (.bool true)).setCell ⟨h + 1 + 1 + 1, j, none⟩ (.int .i64 v)) := by
    refine Only.setCell (own := fun b => b = h + 1 ∨ b = h + 1 + 1 + 1) ?_ (.inl (.inr rfl)) _
    refine Only.setCell (own := fun b => b = h + 1 ∨ b = h + 1 + 1 + 1) ?_ (.inl (.inl rfl)) _
    exact Only.refl _ _
  refine ⟨H.rc.only hO (fun b hb ho => by have := H.far b hb; omega), ?_, hO.rowIs H.r2 (by omega), ?_, H.far⟩
  · exact ((H.r1.set j _).setOther (by simp) _).congr (fun i hi => by split <;> rfl)
  · exact ((H.r3.setOther (by simp; omega) _).set j _).congr (fun i hi => by split <;> rfl)

theorem mark1_only (h j : Nat) (v : Int) (w : World) : Only (fun b => b = h + 1 ∨ b = h + 1 + 1 + 1) w ((w.setCell ⟨h + 1, j, none⟩ (.bool true)).setCell ⟨h + 1 + 1 + 1, j, none⟩ (.int .i64 v)) := by
  refine Only.setCell (own := fun b => b = h + 1 ∨ b = h + 1 + 1 + 1) ?_ (.inl (.inr rfl)) _
  refine Only.setCell (own := fun b => b = h + 1 ∨ b = h + 1 + 1 + 1) ?_ (.inl (.inl rfl)) _
  exact Only.refl _ _

theorem Tr.mark2 {h : Nat} {init : Int} {M : Int → Option Gran} {B : Int → Nat} {tc1 tc2 : Nat → Bool} {vl : Nat → Int} {w : World} (H : Tr h init M B tc1 tc2 vl w) (j : Nat) :
    Tr h init M B tc1 (fun i => if i = j then true else tc2 i) vl (w.setCell ⟨h + 1 + 1, j, none⟩ (.bool true)) := by
  have hO : Only (fun b => b = h + 1 + 1) w (w.setCell ⟨h + 1 + 1, j, none⟩ (.bool true)) := by
    refine Only.setCell (own := fun b => b = h + 1 + 1) ?_ (.inl rfl) _
    exact Only.refl _ _
  refine ⟨H.rc.only hO (fun b hb ho => by have := H.far b hb; omega), hO.rowIs H.r1 (by omega), ?_, hO.rowIs H.r3 (by omega), H.far⟩
  exact (H.r2.set j _).congr (fun i hi => by split <;> rfl)

theorem mark2_only (h j : Nat) (w : World) : Only (fun b => b = h + 1 + 1) w (w.setCell ⟨h + 1 + 1, j, none⟩ (.bool true)) := by
  refine Only.setCell (own := fun b => b = h + 1 + 1) ?_ (.inl rfl) _
  exact Only.refl _ _

theorem AtM.marks {h ba bt bc n : Nat} {id : Int} {W : Nat → Int} {M : Int → Option Gran} {B : Int → Nat} {uv : Value} {us : List Gran} {w w' : World} {o : Nat → Prop} (H : AtM h ba bt bc n id W M B uv us w) (hO : Only o w w')
    (ho : ∀ b, o b → b < h + 4) : AtM h ba bt bc n id W M B uv us w' :=
  H.only hO (fun hb => by have := ho _ hb; have := H.la; omega) (fun hb => by have := ho _ hb; have := H.lt; omega) (fun hb => by have := ho _ hb; have := H.lc; omega)
    (fun b hu hb => by have := ho _ hb; have := H.lu b hu; omega)

/-! ### The start -/
def f16 : Array Value := #[.bool false, .bool false, .bool false, .bool false, .bool false, .bool false, .bool false, .bool false, .bool false, .bool false, .bool false, .bool false, .bool false, .bool false, .bool false, .bool false]
def i16 : Array Value := #[.int .i64 0, .int .i64 0, .int .i64 0, .int .i64 0, .int .i64 0, .int .i64 0, .int .i64 0, .int .i64 0, .int .i64 0, .int .i64 0, .int .i64 0, .int .i64 0, .int .i64 0, .int .i64 0, .int .i64 0, .int .i64 0]
def tripStart (w : World) (init : Int) : World := (((w.alloc (.cells (recCells (.int .i64 init)) 57)).alloc (.cells f16 78)).alloc (.cells f16 78)).alloc (.cells i16 79)
theorem tripStart_size (w : World) (init : Int) : (tripStart w init).heap.size = w.heap.size + 1 + 1 + 1 + 1 := by simp [tripStart]
theorem f16_at : ∀ i, i < 16 → f16[i]? = some (.bool false)
  | 0, _ => rfl | 1, _ => rfl | 2, _ => rfl | 3, _ => rfl | 4, _ => rfl | 5, _ => rfl | 6, _ => rfl | 7, _ => rfl | 8, _ => rfl | 9, _ => rfl | 10, _ => rfl | 11, _ => rfl | 12, _ => rfl | 13, _ => rfl | 14, _ => rfl | 15, _ => rfl
  | n + 16, h => by omega
theorem i16_at : ∀ i, i < 16 → i16[i]? = some (.int .i64 0)
  | 0, _ => rfl | 1, _ => rfl | 2, _ => rfl | 3, _ => rfl | 4, _ => rfl | 5, _ => rfl | 6, _ => rfl | 7, _ => rfl | 8, _ => rfl | 9, _ => rfl | 10, _ => rfl | 11, _ => rfl | 12, _ => rfl | 13, _ => rfl | 14, _ => rfl | 15, _ => rfl
  | n + 16, h => by omega
theorem row_lit {w : World} {b : Nat} {c : Array Value} {t : TypeId} {v : Value} (h : w.heap[b]? = some (.cells c t (0, 0))) (hs : c.size = 16) (hc : ∀ i, i < 16 → c[i]? = some v) : w.rowIs b t 16 (fun _ => v) :=
  ⟨c, h, hs, hc⟩
theorem tripStart_tr (w : World) (init : Int) : Tr w.heap.size init (fun _ => none) (fun _ => 0) (fun _ => false) (fun _ => false) (fun _ => 0) (tripStart w init) := by
  have e0 : (tripStart w init).heap[w.heap.size]? = some (.cells (recCells (.int .i64 init)) 57 (0, 0)) := by
    unfold tripStart
    rw [heap_alloc_if, if_neg (by simp; omega), heap_alloc_if, if_neg (by simp; omega), heap_alloc_if, if_neg (by simp), heap_alloc_if, if_pos rfl]
  have e1 : (tripStart w init).heap[w.heap.size + 1]? = some (.cells f16 78 (0, 0)) := by
    unfold tripStart
    rw [heap_alloc_if, if_neg (by simp), heap_alloc_if, if_neg (by simp), heap_alloc_if, if_pos (by simp)]
  have e2 : (tripStart w init).heap[w.heap.size + 1 + 1]? = some (.cells f16 78 (0, 0)) := by
    unfold tripStart
    rw [heap_alloc_if, if_neg (by simp), heap_alloc_if, if_pos (by simp)]
  have e3 : (tripStart w init).heap[w.heap.size + 1 + 1 + 1]? = some (.cells i16 79 (0, 0)) := by
    unfold tripStart
    rw [heap_alloc_if, if_pos (by simp)]
  refine ⟨Rec.new e0, row_lit e1 rfl f16_at, row_lit e2 rfl f16_at, row_lit e3 rfl i16_at, ?_⟩
  rintro b (hb | ⟨k, _, hl, _⟩)
  · exact .inl hb
  · exact absurd rfl hl
theorem tripStart_only (w : World) (init : Int) : Only (fun _ => False) w (tripStart w init) := ((((Only.refl _ w).alloc _).alloc _).alloc _).alloc _

/-! ### What the two attempts do, plainly -/

/-- attempt 1: the marks and the values are the Recorder's -/
def J1 (M : Int → Option Gran) (tc : Nat → Bool) (vl : Nat → Int) (t : Nat) : Prop :=
  ∀ j, j < 16 → (tc j = false ∧ M j = none) ∨ (tc j = true ∧ ∃ c, 1 ≤ c ∧ c ≤ (t : Int) ∧ M j = some (1, vl j, c))

theorem J1.ins {M : Int → Option Gran} {tc : Nat → Bool} {vl : Nat → Int} {t : Nat} (h : J1 M tc vl t) (init : Int) (j : Nat) (hj : j < 16) : 0 ≤ (inst init (M j)).2.2 ∧ (inst init (M j)).2.2 ≤ (t : Int) := by
  rcases h j hj with ⟨_, e⟩ | ⟨_, c, h1, h2, e⟩
  · rw [e]; simp [inst]
  · rw [e]; simp only [inst]; omega

theorem J1.step {M : Int → Option Gran} {tc : Nat → Bool} {vl : Nat → Int} {t : Nat} (h : J1 M tc vl t) (init : Int) (k : Nat) (hk : k < 16) (v : Int) :
    J1 (setM M k (1, v, (inst init (M k)).2.2 + 1)) (fun i => if i = k then true else tc i) (fun i => if i = k then v else vl i) (t + 1) := by
  intro j hj
  have hi := h.ins init k hk
  by_cases e : j = k
  · subst e
    right
    refine ⟨if_pos rfl, (inst init (M j)).2.2 + 1, by omega, by omega, ?_⟩
    simp [setM]
  · have hne : ¬ (j : Int) = (k : Int) := by omega
    simp only [if_neg e, setM, if_neg hne]
    rcases h j hj with h1 | ⟨h1, c, h2, h3, h4⟩
    · exact .inl h1
    · exact .inr ⟨h1, c, h2, by omega, h4⟩

/-- attempt 2 over what attempt 1 has left -/
structure J2 (init : Int) (M1 M : Int → Option Gran) (tc : Nat → Bool) (us : List Gran) (t : Nat) : Prop where
  len : us.length = t
  keys : ∀ i, i < us.length → ∃ j : Nat, j < 16 ∧ (us.getD i (0, 0, 0)).1 = (j : Int)
  ins : ∀ j : Nat, j < 16 → 0 ≤ (inst init (M j)).2.2 ∧ (inst init (M j)).2.2 ≤ 1024 + (t : Int)
  no : ∀ j : Nat, j < 16 → tc j = false → M j = M1 j ∧ ∀ i, i < us.length → (us.getD i (0, 0, 0)).1 ≠ (j : Int)
  yes : ∀ j : Nat, j < 16 → tc j = true → ∃ f, f < us.length ∧ us.getD f (0, 0, 0) = ((j : Int), (inst init (M1 j)).1, (inst init (M1 j)).2.1) ∧ ∀ i, i < f → (us.getD i (0, 0, 0)).1 ≠ (j : Int)

theorem getD_append_l (us : List Gran) (x : Gran) (i : Nat) (h : i < us.length) : (us ++ [x]).getD i (0, 0, 0) = us.getD i (0, 0, 0) := by
  simp [List.getD_eq_getElem?_getD, List.getElem?_append_left h]
theorem getD_append_r (us : List Gran) (x : Gran) : (us ++ [x]).getD us.length (0, 0, 0) = x := by
  simp [List.getD_eq_getElem?_getD]

theorem J2.start (init : Int) (M : Int → Option Gran) (hins : ∀ j : Nat, j < 16 → 0 ≤ (inst init (M j)).2.2 ∧ (inst init (M j)).2.2 ≤ 1024) : J2 init M M (fun _ => false) [] 0 :=
  ⟨rfl, fun i hi => by simp at hi, fun j hj => by have := hins j hj; omega, fun j hj _ => ⟨rfl, fun i hi => by simp at hi⟩, fun j hj h => by cases h⟩

theorem J2.step {init : Int} {M1 M : Int → Option Gran} {tc : Nat → Bool} {us : List Gran} {t : Nat} (h : J2 init M1 M tc us t) (k : Nat) (hk : k < 16) (v : Int) :
    J2 init M1 (setM M k (2, v, (inst init (M k)).2.2 + 1)) (fun i => if i = k then true else tc i) (us ++ [((k : Int), (inst init (M k)).1, (inst init (M k)).2.1)]) (t + 1) := by
  have hlen : (us ++ [((k : Int), (inst init (M k)).1, (inst init (M k)).2.1)]).length = us.length + 1 := by simp
  refine ⟨by rw [hlen, h.len], ?_, ?_, ?_, ?_⟩
  · intro i hi
    rw [hlen] at hi
    by_cases e : i < us.length
    · rw [getD_append_l us _ i e]; exact h.keys i e
    · have : i = us.length := by omega
      subst this
      rw [getD_append_r]; exact ⟨k, hk, rfl⟩
  · intro j hj
    have hk' := h.ins k hk
    by_cases e : j = k
    · subst e
      have e2 : setM M (j : Int) (2, v, (inst init (M j)).2.2 + 1) (j : Int) = some (2, v, (inst init (M j)).2.2 + 1) := by simp [setM]
      rw [e2]
      show 0 ≤ (inst init (M j)).2.2 + 1 ∧ (inst init (M j)).2.2 + 1 ≤ 1024 + ((t + 1 : Nat) : Int)
      omega
    · have hne : ¬ (j : Int) = (k : Int) := by omega
      simp only [setM, if_neg hne]
      have := h.ins j hj; omega
  · intro j hj htc
    by_cases e : j = k
    · subst e; simp at htc
    · have hne : ¬ (j : Int) = (k : Int) := by omega
      simp only [if_neg e] at htc
      obtain ⟨h1, h2⟩ := h.no j hj htc
      refine ⟨by simp only [setM, if_neg hne]; exact h1, fun i hi => ?_⟩
      rw [hlen] at hi
      by_cases e2 : i < us.length
      · rw [getD_append_l us _ i e2]; exact h2 i e2
      · have : i = us.length := by omega
        subst this
        rw [getD_append_r]
        exact fun e3 => hne e3.symm
  · intro j hj htc
    by_cases e : j = k
    · subst e
      by_cases e2 : tc j = true
      · obtain ⟨f, hf, h1, h2⟩ := h.yes j hj e2
        exact ⟨f, by rw [hlen]; omega, by rw [getD_append_l us _ f hf]; exact h1, fun i hi => by rw [getD_append_l us _ i (by omega)]; exact h2 i hi⟩
      · obtain ⟨h1, h2⟩ := h.no j hj (by simpa using e2)
        refine ⟨us.length, by rw [hlen]; omega, by rw [getD_append_r, h1], fun i hi => by rw [getD_append_l us _ i hi]; exact h2 i hi⟩
    · simp only [if_neg e] at htc
      obtain ⟨f, hf, h1, h2⟩ := h.yes j hj htc
      exact ⟨f, by rw [hlen]; omega, by rw [getD_append_l us _ f hf]; exact h1, fun i hi => by rw [getD_append_l us _ i (by omega)]; exact h2 i hi⟩

end Go.Proofs.Ybulkaqgy.Rec

/-
  latch.Table: grow (the first array), Entry, Get, by cells and rows.
-/
import Derived.Test.YbulkaqgyRecKeys
namespace Go.Proofs.Ybulkaqgy.Rec
open Go.RowKit Go.Deep
set_option linter.unusedVariables false

theorem info97 : (Yba.prog.info? 97).map (fun i => (i.zero, i.size, i.bytes)) = some (some (.agg #[.int .i64 0, .bool false, .int .i64 0, .int .i64 0, .int .i64 0]), 5, 40) := by kernel_rfl

/-- what make lays for a table's first eight slots -/
def slots0 : Array Value := madeCells #[.int .i64 0, .bool false, .int .i64 0, .int .i64 0, .int .i64 0] 40
def slot0 (j : Nat) : Value := slots0.getD j (.bool false)
theorem slots0_size : slots0.size = 40 := size_madeCells _ _
theorem slot0_eq (j : Nat) (hj : j < 40) : slot0 j = (#[.int .i64 0, .bool false, .int .i64 0, .int .i64 0, .int .i64 0] : Array Value)[j % 5]! := by
  simp [slot0, slots0, madeCells, Array.getD, hj]
theorem slots0_at (h : Nat) (hh : h < 8) : slot0 (h * 5) = .int .i64 0 ∧ slot0 (h * 5 + 1) = .bool false ∧ slot0 (h * 5 + 2) = .int .i64 0 ∧ slot0 (h * 5 + 3) = .int .i64 0 ∧ slot0 (h * 5 + 4) = .int .i64 0 := by
  refine ⟨?_, ?_, ?_, ?_, ?_⟩
  · rw [slot0_eq _ (by omega), show h * 5 % 5 = 0 from by omega]; rfl
  · rw [slot0_eq _ (by omega), show (h * 5 + 1) % 5 = 1 from by omega]; rfl
  · rw [slot0_eq _ (by omega), show (h * 5 + 2) % 5 = 2 from by omega]; rfl
  · rw [slot0_eq _ (by omega), show (h * 5 + 3) % 5 = 3 from by omega]; rfl
  · rw [slot0_eq _ (by omega), show (h * 5 + 4) % 5 = 4 from by omega]; rfl
theorem slots0_row {w : World} {b : Nat} (h : w.heap[b]? = some (.cells slots0 97 (0, 0))) : w.rowIs b 97 40 slot0 :=
  ⟨_, h, slots0_size, fun i hi => by have : i < slots0.size := by rw [slots0_size]; exact hi
                                     simp [slot0, Array.getD, this]⟩

theorem make97 (w : World) : (Instr.makeSlice 47 (.int .i64 8) (.int .i64 8)).run Yba.prog w = .ok (.slice (some ⟨w.heap.size, 0, none⟩) 8 8) (w.alloc (.cells slots0 97)) := by
  obtain ⟨i0, hi, hz0, hz1, hz2⟩ := info_parts info97
  have h := run_make (P := Yba.prog) w 47 97 i0 _ Yba.underlying47 hi hz0 .i64 .i64 8 8 (by omega) (Int.le_refl _) (by rw [hz2]; omega) (by omega)
  rw [hz1] at h
  exact h

set_option maxHeartbeats 400000 in
theorem grow_first (b o : Nat) (v2 : Value) (w : World) (hb : b < w.heap.size) (hsl : w.cell? ⟨b, o, none⟩ = some (.slice none 0 0)) (hs : w.cell? ⟨b, o + 2, none⟩ = some v2)
    (f0 : w.frozen? ⟨b, o, none⟩ = false) (f2 : w.frozen? ⟨b, o + 2, none⟩ = false) :
    Calls Yba.prog 20 #[.pointer (some ⟨b, o, none⟩)] w fun e w' => e = .returned (.tuple #[]) ∧
      w' = ((w.setCell ⟨b, o, none⟩ (.slice (some ⟨w.heap.size, 0, none⟩) 8 8)).setCell ⟨b, o + 2, none⟩ (.int .u64 61)).alloc (.cells slots0 97) := by
  have hmk := make97
  go_enter Yba.func20, Yba.ntmps20
  go_wp2
  exact bodyPost_ret (v := .tuple #[]) (by simp [results, Yba.results20, go_sem]) rfl ⟨rfl, rfl⟩

set_option maxHeartbeats 400000 in
theorem entry_live (k : Int) (hk : K k) (b o s : Nat) (w : World) (hsl : w.cell? ⟨b, o, none⟩ = some (.slice (some ⟨s, 0, none⟩) 8 8)) (he : w.cell? ⟨b, o + 1, none⟩ = some (.int .i64 1)) (hs : w.cell? ⟨b, o + 2, none⟩ = some (.int .u64 61))
    (hu : w.cell? ⟨s, hm k * 5 + 1, none⟩ = some (.bool true)) (hkey : w.cell? ⟨s, hm k * 5, none⟩ = some (.int .i64 k)) :
    Calls Yba.prog 18 #[.pointer (some ⟨b, o, none⟩), .int .i64 k] w fun e w' => e = .returned (.pointer (some ⟨s, hm k * 5 + 2, none⟩)) ∧ ∃ n, w' = w.drewN n := by
  have HK : Hid _ := hk
  have hh := hm_lt k
  have hh2 : (hm k : Int) < 8 := by omega
  clear hk
  go_enter Yba.func18, Yba.ntmps18
  go_wp2
  go_quiet ((go_at_call 14; exact Calls.quiet_of_same (find_used k HK.out b o s _ hsl hs hu hkey)))
  go_wp2
  go_ret
  exact ⟨rfl, _, rfl⟩

/-- Below nothing but the blocks of 'own' has turned. -/
structure Only (own : Nat → Prop) (w w' : World) : Prop where
  os : w'.os = w.os
  tape : w'.tape = w.tape
  output : w'.output = w.output
  size : w.heap.size ≤ w'.heap.size
  block : ∀ c, c < w.heap.size → ¬ own c → w'.heap[c]? = w.heap[c]?

namespace Only
variable {own own' : Nat → Prop} {a w w' : World}
theorem refl (own : Nat → Prop) (w : World) : Only own w w := ⟨rfl, rfl, rfl, Nat.le_refl _, fun _ _ _ => rfl⟩
theorem trans {c : World} (h : Only own a w) (k : Only own' w c) (hs : ∀ b, own' b → own b ∨ a.heap.size ≤ b) : Only own a c :=
  ⟨k.os.trans h.os, k.tape.trans h.tape, k.output.trans h.output, Nat.le_trans h.size k.size, fun i hi hn =>
    (k.block i (Nat.lt_of_lt_of_le hi h.size) (fun ho => by rcases hs i ho with h' | h'; exact hn h'; omega)).trans (h.block i hi hn)⟩
theorem drew (h : Only own a w) : Only own a w.drew := ⟨h.os, h.tape, h.output, h.size, h.block⟩
theorem drewN (h : Only own a w) (n : Nat) : Only own a (w.drewN n) := ⟨h.os, h.tape, h.output, h.size, h.block⟩
theorem alloc (h : Only own a w) (o : Obj) : Only own a (w.alloc o) :=
  ⟨h.os, h.tape, h.output, by have := h.size; simp; omega, fun c hc hn => (Below.heap_alloc _ _ _ (by have := h.size; omega)).trans (h.block c hc hn)⟩
theorem setCell (h : Only own a w) {p : Addr} (hp : own p.block ∨ a.heap.size ≤ p.block) (v : Value) : Only own a (w.setCell p v) :=
  ⟨h.os, h.tape, h.output, by have := h.size; simpa using this, fun c hc hn => (Below.heap_setCell _ _ _ _ (fun e => by subst e; rcases hp with h' | h'; exact hn h'; omega)).trans (h.block c hc hn)⟩
theorem below {B : Nat} (h : Only own a w) (hB : B ≤ a.heap.size) (ho : ∀ b, own b → B ≤ b) : Below B a w :=
  ⟨h.os, h.tape, h.output, h.size, fun k hk => h.block k (by omega) (fun e => by have := ho k e; omega)⟩
theorem rowIs {b : Nat} {t : TypeId} {n : Nat} {f : Nat → Value} (h : Only own a w) (hr : a.rowIs b t n f) (hb : ¬ own b) : w.rowIs b t n f := hr.of_block (h.block b hr.lt hb)
end Only

/-- One cell of a row's content turned. -/
def upd (R : Nat → Value) (i : Nat) (v : Value) : Nat → Value := fun j => if j = i then v else R j
theorem upd_same (R : Nat → Value) (i : Nat) (v : Value) : upd R i v i = v := if_pos rfl
theorem upd_other (R : Nat → Value) (i j : Nat) (v : Value) (h : j ≠ i) : upd R i v j = R j := if_neg h
theorem rowIs_upd {w : World} {b : Nat} {t : TypeId} {n : Nat} {f : Nat → Value} (h : w.rowIs b t n f) (i : Nat) (v : Value) : (w.setCell ⟨b, i, none⟩ v).rowIs b t n (upd f i v) := h.set i v

set_option maxHeartbeats 400000 in
theorem grow_row (b o : Nat) (R : Nat → Value) (w : World) (hR : w.rowIs b 57 1351 R) (ho : o + 2 < 1351) (hsl : R o = .slice none 0 0) :
    Calls Yba.prog 20 #[.pointer (some ⟨b, o, none⟩)] w fun e w' => e = .returned (.tuple #[]) ∧
      w'.rowIs b 57 1351 (upd (upd R o (.slice (some ⟨w.heap.size, 0, none⟩) 8 8)) (o + 2) (.int .u64 61)) ∧ w'.rowIs w.heap.size 97 40 slot0 ∧ Only (· = b) w w' := by
  refine (grow_first b o _ w hR.lt ((hR.cell (by omega)).trans (by rw [hsl])) (hR.cell (by omega)) (hR.frozen _) (hR.frozen _)).mono ?_
  rintro e w' ⟨rfl, rfl⟩
  have hO : Only (· = b) w (((w.setCell ⟨b, o, none⟩ (.slice (some ⟨w.heap.size, 0, none⟩) 8 8)).setCell ⟨b, o + 2, none⟩ (.int .u64 61)).alloc (.cells slots0 97)) := by
    refine Only.alloc ?_ _
    refine Only.setCell (own := fun x => x = b) ?_ (.inl rfl) _
    refine Only.setCell (own := fun x => x = b) ?_ (.inl rfl) _
    exact Only.refl _ _
  refine ⟨rfl, (rowIs_upd (rowIs_upd hR _ _) _ _).alloc _, ?_, hO⟩
  have h := slots0_row (w := ((w.setCell ⟨b, o, none⟩ (.slice (some ⟨w.heap.size, 0, none⟩) 8 8)).setCell ⟨b, o + 2, none⟩ (.int .u64 61)).alloc (.cells slots0 97)) (heap_alloc_new _ _)
  simpa using h

set_option maxHeartbeats 400000 in
theorem entry_new (k : Int) (hk : K k) (b o : Nat) (R : Nat → Value) (w : World) (hR : w.rowIs b 57 1351 R) (ho : o + 2 < 1351) (hsl : R o = .slice none 0 0) (he : R (o + 1) = .int .i64 0) :
    Calls Yba.prog 18 #[.pointer (some ⟨b, o, none⟩), .int .i64 k] w fun e w' => e = .returned (.pointer (some ⟨w.heap.size, hm k * 5 + 2, none⟩)) ∧
      w'.rowIs b 57 1351 (upd (upd (upd R o (.slice (some ⟨w.heap.size, 0, none⟩) 8 8)) (o + 2) (.int .u64 61)) (o + 1) (.int .i64 1)) ∧
      w'.rowIs w.heap.size 97 40 (upd (upd slot0 (hm k * 5) (.int .i64 k)) (hm k * 5 + 1) (.bool true)) ∧ Only (· = b) w w' := by
  have HK : Hid _ := hk
  have hh := hm_lt k
  have hh2 : (hm k : Int) < 8 := by omega
  obtain ⟨z0, z1, _⟩ := slots0_at (hm k) hh
  have c0 : w.cell? ⟨b, o, none⟩ = some (.slice none 0 0) := (hR.cell (by omega)).trans (by rw [hsl])
  have c1 : w.cell? ⟨b, o + 1, none⟩ = some (.int .i64 0) := (hR.cell (by omega)).trans (by rw [he])
  have HR : Hid (w.rowIs b 57 1351 R) := hR
  have HE : Hid (R o = .slice none 0 0 ∧ R (o + 1) = .int .i64 0) := ⟨hsl, he⟩
  have HZ : Hid (slot0 (hm k * 5) = .int .i64 0 ∧ slot0 (hm k * 5 + 1) = .bool false) := ⟨z0, z1⟩
  clear hk hR hsl he z0 z1
  go_enter Yba.func18, Yba.ntmps18
  go_wp2
  go_quiet (fail)
  go_wp2_with fail
  refine (grow_row b o R (w.drewN nq) HR.out ho HE.out.1).mono ?_
  rintro e w1 ⟨rfl, hr1, hs1, hO⟩
  have d0 : w1.cell? ⟨b, o, none⟩ = some (.slice (some ⟨w.heap.size, 0, none⟩) 8 8) := (hr1.cell (by omega)).trans (by rw [upd_other _ _ _ _ (by omega), upd_same]; rfl)
  have d1 : w1.cell? ⟨b, o + 1, none⟩ = some (.int .i64 0) := (hr1.cell (by omega)).trans (by rw [upd_other _ _ _ _ (by omega), upd_other _ _ _ _ (by omega), HE.out.2])
  have d2 : w1.cell? ⟨b, o + 2, none⟩ = some (.int .u64 61) := (hr1.cell (by omega)).trans (by rw [upd_same])
  have df : w1.frozen? ⟨b, o + 1, none⟩ = false := hr1.frozen _
  have s0 : w1.cell? ⟨w.heap.size, hm k * 5, none⟩ = some (.int .i64 0) := (hs1.cell (by omega)).trans (by rw [HZ.out.1])
  have s1 : w1.cell? ⟨w.heap.size, hm k * 5 + 1, none⟩ = some (.bool false) := (hs1.cell (by omega)).trans (by rw [HZ.out.2])
  have sf0 : w1.frozen? ⟨w.heap.size, hm k * 5, none⟩ = false := hs1.frozen _
  have sf1 : w1.frozen? ⟨w.heap.size, hm k * 5 + 1, none⟩ = false := hs1.frozen _
  have hne : ¬ w.heap.size = b := by have := (show w.rowIs b 57 1351 R from HR.out).lt; omega
  have HR1 : Hid (w1.rowIs b 57 1351 (upd (upd R o (.slice (some ⟨w.heap.size, 0, none⟩) 8 8)) (o + 2) (.int .u64 61))) := hr1
  have HS1 : Hid (w1.rowIs w.heap.size 97 40 slot0) := hs1
  have HO : Hid (Only (· = b) w w1) := ⟨hO.os, hO.tape, hO.output, hO.size, hO.block⟩
  clear hr1 hs1 hO c0 c1
  go_wp2
  go_quiet ((go_at_call 14; exact Calls.quiet_of_same (find_free k HK.out b o w.heap.size _ d0 d2 s1)))
  go_wp2
  go_ret
  refine ⟨rfl, ?_, ?_, ?_⟩
  · have h : (w1.drewN nq).rowIs b 57 1351 (upd (upd R o (.slice (some ⟨w.heap.size, 0, none⟩) 8 8)) (o + 2) (.int .u64 61)) := HR1.out
    exact rowIs_upd ((h.setOther (by exact fun e => hne e.symm) _).setOther (by exact fun e => hne e.symm) _) _ _
  · have h : (w1.drewN nq).rowIs w.heap.size 97 40 slot0 := HS1.out
    exact (rowIs_upd (rowIs_upd h _ _) _ _).setOther (by exact hne) _
  · have h : Only (· = b) w w1 := HO.out
    refine Only.setCell (own := fun x => x = b) ?_ (.inl rfl) _
    refine Only.setCell (own := fun x => x = b) ?_ (.inr (Nat.le_refl _)) _
    refine Only.setCell (own := fun x => x = b) ?_ (.inr (Nat.le_refl _)) _
    exact h.drewN _

set_option maxHeartbeats 400000 in
theorem get_none (k : Int) (b o : Nat) (w : World) (he : w.cell? ⟨b, o + 1, none⟩ = some (.int .i64 0)) :
    Calls Yba.prog 10 #[.pointer (some ⟨b, o, none⟩), .int .i64 k] w fun e w' => e = .returned (.tuple #[.agg #[.int .i64 0, .int .i64 0, .int .i64 0], .bool false]) ∧ Only (fun _ => False) w w' := by
  have hlt := World.block_lt_of_cell? _ _ he
  have hlt2 : b < w.heap.size := hlt
  clear hlt
  go_enter Yba.func10, Yba.ntmps10
  go_wp2
  refine bodyPost_ret (v := .tuple #[.agg #[.int .i64 0, .int .i64 0, .int .i64 0], .bool false]) (by simp [results, Yba.results10, go_sem]) rfl ⟨rfl, ((Only.refl _ w).alloc _).alloc _⟩

set_option maxHeartbeats 400000 in
theorem get_live (k : Int) (hk : K k) (b o s : Nat) (ver val ins : Int) (w : World) (hsl : w.cell? ⟨b, o, none⟩ = some (.slice (some ⟨s, 0, none⟩) 8 8)) (he : w.cell? ⟨b, o + 1, none⟩ = some (.int .i64 1)) (hs : w.cell? ⟨b, o + 2, none⟩ = some (.int .u64 61))
    (hu : w.cell? ⟨s, hm k * 5 + 1, none⟩ = some (.bool true)) (hkey : w.cell? ⟨s, hm k * 5, none⟩ = some (.int .i64 k))
    (g0 : w.cell? ⟨s, hm k * 5 + 2, none⟩ = some (.int .i64 ver)) (g1 : w.cell? ⟨s, hm k * 5 + 3, none⟩ = some (.int .i64 val)) (g2 : w.cell? ⟨s, hm k * 5 + 4, none⟩ = some (.int .i64 ins)) :
    Calls Yba.prog 10 #[.pointer (some ⟨b, o, none⟩), .int .i64 k] w fun e w' => e = .returned (.tuple #[.agg #[.int .i64 ver, .int .i64 val, .int .i64 ins], .bool true]) ∧ Only (fun _ => False) w w' := by
  have HK : Hid _ := hk
  have hh := hm_lt k
  have hh2 : (hm k : Int) < 8 := by omega
  have hlt : b < w.heap.size := World.block_lt_of_cell? _ _ he
  have hlt2 : s < w.heap.size := World.block_lt_of_cell? _ _ hu
  clear hk
  have hA := fun (p : Addr) (h : p.block < w.heap.size) => World.cell?_alloc_lt w (.cells #[.int .i64 0, .int .i64 0, .int .i64 0] 72) p h
  have hslA := (hA ⟨b, o, none⟩ hlt).trans hsl
  have hsA := (hA ⟨b, o + 2, none⟩ hlt).trans hs
  have huA := (hA ⟨s, hm k * 5 + 1, none⟩ hlt2).trans hu
  have hkeyA := (hA ⟨s, hm k * 5, none⟩ hlt2).trans hkey
  clear hA
  go_enter Yba.func10, Yba.ntmps10
  go_wp2
  go_quiet ((go_at_call 14; exact Calls.quiet_of_same (find_used k HK.out b o s _ hslA hsA huA hkeyA)))
  go_wp2
  go_region
  go_wp2
  refine bodyPost_ret (v := .tuple #[.agg #[.int .i64 ver, .int .i64 val, .int .i64 ins], .bool true]) (by simp [results, Yba.results10, go_sem]) rfl ⟨rfl, ?_⟩
  refine Only.setCell (own := fun _ => False) ?_ (.inr (Nat.le_refl _)) _
  refine Only.setCell (own := fun _ => False) ?_ (.inr (Nat.le_refl _)) _
  refine Only.setCell (own := fun _ => False) ?_ (.inr (Nat.le_refl _)) _
  exact ((Only.refl _ w).alloc _).drewN _
end Go.Proofs.Ybulkaqgy.Rec

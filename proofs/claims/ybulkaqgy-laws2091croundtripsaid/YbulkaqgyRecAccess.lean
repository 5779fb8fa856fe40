/-
  Attempt.access (a write), install, IntObject walked, over the Recorder in memory.
-/
import Derived.Test.YbulkaqgyRecNew
import Derived.Deep.RegionLaw
import Derived.Deep.AppendLies
import Derived.Test.YbulkaqgyLastStore
namespace Go.Proofs.Ybulkaqgy.Rec
open Go.RowKit Go.Deep
set_option linter.unusedVariables false
set_option linter.unusedSimpArgs false

/-- an Attempt in memory -/
def AtIs (w : World) (ba br bt : Nat) (id : Int) (uv : Value) : Prop :=
  w.heap[ba]? = some (.cells #[.pointer (some ⟨br, 0, none⟩), .int .i64 id, .pointer (some ⟨bt, 0, none⟩), .slice none 0 0, uv, .slice none 0 0, .int .u64 0] 70 (0, 0))

theorem neq37 (w : World) : (binOp BinOp.neq 37 Value.nilFunc Value.nilFunc).run Yba.prog w = .ok (.bool false) w := by kernel_rfl
theorem neq39 (w : World) : (binOp BinOp.neq 39 Value.nilIface Value.nilIface).run Yba.prog w = .ok (.bool false) w := by kernel_rfl

set_option maxRecDepth 10000 in
set_option maxHeartbeats 1000000 in
theorem install_any (ba br bt s o : Nat) (id v ins x0 x1 : Int) (op : Value) (uv : Value) (w : World) (hat : AtIs w ba br bt id uv) (hrec : w.cell? ⟨br, 0, none⟩ = some .nilFunc)
    (c0 : w.cell? ⟨s, o, none⟩ = some (.int .i64 x0)) (c1 : w.cell? ⟨s, o + 1, none⟩ = some (.int .i64 x1)) (c2 : w.cell? ⟨s, o + 2, none⟩ = some (.int .i64 ins))
    (f0 : w.frozen? ⟨s, o, none⟩ = false) (f1 : w.frozen? ⟨s, o + 1, none⟩ = false) (f2 : w.frozen? ⟨s, o + 2, none⟩ = false) (hsa : s ≠ ba) (hsb : s ≠ br) (hi0 : 0 ≤ ins) (hi1 : ins ≤ 100000) :
    Calls Yba.prog 17 #[.pointer (some ⟨ba, 0, none⟩), .pointer (some ⟨s, o, none⟩), op, .int .i64 v] w fun e w' => e = .returned (.tuple #[]) ∧
      ((w.setCell ⟨s, o, none⟩ (.int .i64 id)).setCell ⟨s, o + 1, none⟩ (.int .i64 v)).setCell ⟨s, o + 2, none⟩ (.int .i64 (ins + 1)) = w' := by
  have a0 : w.cell? ⟨ba, 0, none⟩ = some (.pointer (some ⟨br, 0, none⟩)) := (cell_of_heap hat).trans rfl
  have a1 : w.cell? ⟨ba, 1, none⟩ = some (.int .i64 id) := (cell_of_heap hat).trans rfl
  clear hat
  have hnf := neq37
  go_enter Yba.func17, Yba.ntmps17
  go_wp2
  go_end0
  exact ⟨rfl, rfl⟩

theorem intObj_any (k : Int) (w : World) : Calls Yba.prog 15 #[.int .i64 k] w fun e w' => e = .returned (.agg #[.int .i64 k, .string { data := #[] }, .bool false]) ∧ Only (fun _ => False) w w' := by
  go_enter Yba.func15, Yba.ntmps15
  go_wp2
  refine bodyPost_ret (v := .agg #[.int .i64 k, .string { data := #[] }, .bool false]) (by simp [results, Yba.results15, go_sem]) rfl ⟨rfl, ?_⟩
  exact (Only.refl _ w).alloc _

theorem Only.ofDrew {o : Nat → Prop} {w w' : World} (h : Only o w.drew w') : Only o w w' := ⟨h.os, h.tape, h.output, h.size, h.block⟩
theorem Only.wider {o o' : Nat → Prop} {w w' : World} (h : Only o w w') (hs : ∀ b, o b → o' b) : Only o' w w' := ⟨h.os, h.tape, h.output, h.size, fun c hc hn => h.block c hc (fun e => hn (hs c e))⟩
theorem far_cell {w2 w3 : World} {o : Obj} {row : Option Nat} (hg : (w2.alloc o).drew.grownBy w3 row) {p : Addr} {x : Value} (h : w2.cell? p = some x) (hne : some p.block ≠ row) : w3.cell? p = some x := by
  have hlt := World.block_lt_of_cell? _ _ h
  exact (hg.cell_far p (by simp; omega) hne).trans ((World.cell?_alloc_lt _ _ _ hlt).trans h)
theorem far_frozen {w2 w3 : World} {o : Obj} {row : Option Nat} (hg : (w2.alloc o).drew.grownBy w3 row) {p : Addr} (hlt : p.block < w2.heap.size) (h : w2.frozen? p = false) (hne : some p.block ≠ row) : w3.frozen? p = false :=
  (hg.frozen_far p (by simp; omega) hne).trans ((World.frozen?_alloc_old _ _ _ (by omega)).trans h)
theorem three_new (w : World) (a b c : Value) (t : TypeId) : ∀ j u, [a, b, c][j]? = some u → (w.alloc (.cells #[a, b, c] t)).drew.cell? ((⟨w.heap.size, 0, none⟩ : Addr).add j) = some u := by
  intro j u hj
  match j, hj with
  | 0, hj => simp at hj; subst hj; simp [Addr.add]
  | 1, hj => simp at hj; subst hj; simp [Addr.add]
  | 2, hj => simp at hj; subst hj; simp [Addr.add]
  | j + 3, hj => simp at hj
theorem info61 : (Yba.prog.info? 61).map (fun i => (i.zero, i.size, i.bytes)) = some (some (.agg #[.int .i64 0, .int .i64 0, .int .i64 0]), 3, 24) := by kernel_rfl
theorem Only.ownsRow {o : Nat → Prop} {w w' : World} {e : TypeId} {size : Nat} {v : Value} {n : Nat} {xs : List Value} (h : Only o w w') (hr : w.ownsRow 0 e size v n xs) (hb : ∀ b, v.ownBlock = some b → ¬ o b) : w'.ownsRow 0 e size v n xs := by
  obtain ⟨h1, h2⟩ := hr
  refine ⟨h1, ?_⟩
  rcases h2 with h2 | ⟨g, cap, cur, rfl, hg, hh, r⟩
  · exact .inl h2
  · exact .inr ⟨g, cap, cur, rfl, hg, (h.block g (lt_of_heap hh) (hb g rfl)).trans hh, r⟩

theorem Only.ofGrown {w2 w3 : World} {o : Obj} {row : Option Nat} (hg : (w2.alloc o).drew.grownBy w3 row) : Only (fun b => row = some b) w2 w3 :=
  ⟨hg.os, hg.tape, hg.output, by have := hg.size; simp at this; omega, fun c hc hn => (hg.block c (by simp; omega) (fun e => hn e.symm)).trans (Below.heap_alloc _ _ _ hc)⟩

/-- the cells of an undo list -/
def usCells (us : List Gran) : List Value := us.flatMap fun u => [.int .i64 u.1, .int .i64 u.2.1, .int .i64 u.2.2]

set_option maxRecDepth 10000 in
set_option maxHeartbeats 2000000 in
theorem access_any (ba br bt bc n i : Nat) (id init v k : Int) (hk : K k) (M : Int → Option Gran) (B : Int → Nat) (uv : Value) (us : List Gran) (w : World) (h : Rec br init M B w) (hat : AtIs w ba br bt id uv)
    (ht : w.cell? ⟨bt, 0, none⟩ = some (.slice (some ⟨bc, 0, none⟩) n n)) (hi : i < n) (hn : n ≤ 1024)
    (e0 : w.cell? ⟨bc, i * 3, none⟩ = some (.int .i64 k)) (e1 : w.cell? ⟨bc, i * 3 + 1, none⟩ = some (.bool true)) (e2 : w.cell? ⟨bc, i * 3 + 2, none⟩ = some (.int .i64 0))
    (hown : w.ownsRow 0 61 3 uv us.length (usCells us)) (hus : us.length ≤ 1024) (hins : 0 ≤ (inst init (M k)).2.2 ∧ (inst init (M k)).2.2 ≤ 4096)
    (na : ¬ own br M B ba) (nt : ¬ own br M B bt) (nc : ¬ own br M B bc) (nu : ∀ b, uv.ownBlock = some b → ¬ own br M B b ∧ b ≠ ba ∧ b ≠ bt ∧ b ≠ bc) :
    Calls Yba.prog 11 #[.pointer (some ⟨ba, 0, none⟩), .agg #[.int .i64 1, .int .i64 (i : Int)], .int .i64 v] w fun e w' => e = .returned (.int .i64 v) ∧ ∃ B' uv', Rec br init (setM M k (id, v, (inst init (M k)).2.2 + 1)) B' w' ∧ AtIs w' ba br bt id uv' ∧
      w'.ownsRow 0 61 3 uv' (us.length + 1) (usCells (us ++ [(k, (inst init (M k)).1, (inst init (M k)).2.1)])) ∧ Only (fun b => own br M B b ∨ b = ba ∨ uv.ownBlock = some b) w w' ∧
      (∀ b, own br (setM M k (id, v, (inst init (M k)).2.2 + 1)) B' b → own br M B b ∨ w.heap.size ≤ b) ∧
      ∀ b, uv'.ownBlock = some b → (uv.ownBlock = some b ∨ w.heap.size ≤ b) ∧ ¬ own br (setM M k (id, v, (inst init (M k)).2.2 + 1)) B' b := by
  have a0 : w.cell? ⟨ba, 0, none⟩ = some (.pointer (some ⟨br, 0, none⟩)) := (cell_of_heap hat).trans rfl
  have a1 : w.cell? ⟨ba, 1, none⟩ = some (.int .i64 id) := (cell_of_heap hat).trans rfl
  have a2 : w.cell? ⟨ba, 2, none⟩ = some (.pointer (some ⟨bt, 0, none⟩)) := (cell_of_heap hat).trans rfl
  have a3 : w.cell? ⟨ba, 3, none⟩ = some (.slice none 0 0) := (cell_of_heap hat).trans rfl
  have lba := lt_of_heap hat
  have lbt : bt < w.heap.size := World.block_lt_of_cell? _ _ ht
  have lbc : bc < w.heap.size := World.block_lt_of_cell? _ _ e0
  obtain ⟨r0, r1, r3⟩ : w.cell? ⟨br, 0, none⟩ = some .nilFunc ∧ w.cell? ⟨br, 1, none⟩ = some (.bool false) ∧ w.cell? ⟨br, 3, none⟩ = some .nilIface := by
    obtain ⟨R, hR, r0, r1, r3, _⟩ := h.row
    exact ⟨(hR.cell (by omega)).trans (congrArg some r0), (hR.cell (by omega)).trans (congrArg some r1), (hR.cell (by omega)).trans (congrArg some r3)⟩
  have lbr : br < w.heap.size := World.block_lt_of_cell? _ _ r0
  have hi0 : (0 : Int) ≤ (i : Int) := by omega
  have hi1 : (i : Int) < (n : Int) := by omega
  have hnf := neq37
  have hni := neq39
  have HK : Hid (K k) := hk
  have H : Hid (Rec br init M B w) := h
  have HA : Hid (AtIs w ba br bt id uv) := hat
  have HO : Hid (w.ownsRow 0 61 3 uv us.length (usCells us)) := hown
  have HINS : Hid (0 ≤ (inst init (M k)).2.2 ∧ (inst init (M k)).2.2 ≤ 4096) := hins
  have HNU : Hid (¬ own br M B ba ∧ ¬ own br M B bt ∧ ¬ own br M B bc ∧ ∀ b, uv.ownBlock = some b → ¬ own br M B b ∧ b ≠ ba ∧ b ≠ bt ∧ b ≠ bc) := ⟨na, nt, nc, nu⟩
  clear hk h hat hown hins na nt nc nu
  go_enter Yba.func11, Yba.ntmps11
  go_wp2
  go_region
  go_wp2_with fail
  refine (intObj_any k _).mono ?_
  rintro e w1 ⟨rfl, hO1⟩
  have hO2 : Only (fun _ => False) w w1 := Only.trans (own' := fun _ => False) (Only.drew (((Only.refl _ w).alloc _).alloc _)) hO1 (fun b hb => hb.elim)
  have b0 := hO2.cell (fun h => h) a0
  have b1 := hO2.cell (fun h => h) a1
  have b3 := hO2.cell (fun h => h) a3
  have q0 := hO2.cell (fun h => h) r0
  have q1 := hO2.cell (fun h => h) r1
  have q3 := hO2.cell (fun h => h) r3
  have l0 : w1.cell? ⟨w.heap.size + 1, 0, none⟩ = some (.int .i64 k) := hO1.cell (fun h => h) (by simp)
  have l1 : w1.cell? ⟨w.heap.size + 1, 1, none⟩ = some (.bool true) := hO1.cell (fun h => h) (by simp)
  have lw1 := hO2.size
  have lba1 : ba < w1.heap.size := by omega
  have lbr1 : br < w1.heap.size := by omega
  have ll1 : w.heap.size + 1 < w1.heap.size := World.block_lt_of_cell? _ _ l0
  have HO2 : Hid (Only (fun _ => False) w w1) := hO2
  clear hO1 hO2 a0 a1 a2 a3 r0 r1 r3 ht e0 e1 e2
  go_wp2
  obtain ⟨wA, hwA⟩ : ∃ wA, wA = w1.alloc (.cells #[.int .i64 k, .string { data := #[] }, .bool false] 99) := ⟨_, rfl⟩
  rw [← hwA]
  have hOA : Only (fun _ => False) w wA := by rw [hwA]; exact (show Only (fun _ => False) w w1 from HO2.out).alloc _
  have hOA1 : Only (fun _ => False) w1 wA := by rw [hwA]; exact (Only.refl _ w1).alloc _
  have A0 := hOA1.cell (fun h => h) b0
  have L0 := hOA1.cell (fun h => h) l0
  have HRA : Hid (Rec br init M B wA.drew) := ((show Rec br init M B w from H.out).only hOA (fun _ _ h => h)).drew
  have HOA : Hid (Only (fun _ => False) w wA) := hOA
  have HNA : Hid (¬ own br M B ba) := (HNU.out).1
  have HNL : Hid (¬ own br M B (w.heap.size + 1)) := fun ho => by have := (show Rec br init M B w from H.out).lt ho; omega
  have lA : w.heap.size + 1 < wA.heap.size := World.block_lt_of_cell? _ _ L0
  have HA0 : Hid (wA.cell? ⟨ba, 0, none⟩ = some (.pointer (some ⟨br, 0, none⟩)) ∧ wA.cell? ⟨w.heap.size + 1, 0, none⟩ = some (.int .i64 k)) := ⟨A0, L0⟩
  clear hwA hOA hOA1 b0 b1 b3 q0 q1 q3 l0 l1 HO2
  go_region_held3 (fun w' => w'.cell? ⟨ba, 0, none⟩ = some (.pointer (some ⟨br, 0, none⟩)) ∧ w'.cell? ⟨w.heap.size + 1, 0, none⟩ = some (.int .i64 k)) (go_keep)
    (first | (go_at_call 12; refine (installed_any k HK.out br init M B _ HRA.out).mono ?_; rintro e w2 ⟨B1, rfl, hR2, hO2, hs2⟩; have ga0 := Only.cell hO2 HNA.out (HA0.out).1; have gl0 := Only.cell hO2 HNL.out (HA0.out).2))
  have hgk : setM M k (inst init (M k)) k = some (inst init (M k)) := by simp [setM]
  obtain ⟨g, hg⟩ : ∃ g, g = inst init (M k) := ⟨_, rfl⟩
  rw [← hg] at hgk hR2 hs2 HINS
  have HGG : Hid (g = inst init (M k)) := hg
  obtain ⟨hkb, S, hSr, s0, s1, s2, s3, s4⟩ := hR2.slots k g HK.out hgk
  have hh := hm_lt k
  have p2 : w2.cell? ⟨B1 k, hm k * 5 + 2, none⟩ = some (.int .i64 g.1) := (hSr.cell (by omega)).trans (congrArg some s2)
  have p3 : w2.cell? ⟨B1 k, hm k * 5 + 3, none⟩ = some (.int .i64 g.2.1) := (hSr.cell (by omega)).trans (congrArg some s3)
  have hOA := (show Only (fun _ => False) w wA from HOA.out)
  have hO3 : Only (own br M B) w w2 := (hOA.wider (o' := own br M B) (fun b hb => hb.elim)).trans hO2.ofDrew (fun b hb => .inl hb)
  have hAt2 : AtIs w2 ba br bt id uv := (hO3.block ba lba (HNU.out).1).trans HA.out
  have hown2 : w2.ownsRow 0 61 3 uv us.length (usCells us) := hO3.ownsRow HO.out (fun b hb => ((HNU.out).2.2.2 b hb).1)
  have c4 : w2.cell? ⟨ba, 4, none⟩ = some uv := (cell_of_heap hAt2).trans rfl
  have cf4 : w2.frozen? ⟨ba, 4, none⟩ = false := frozen_of_heap hAt2
  have lba2 : ba < w2.heap.size := lt_of_heap hAt2
  have huvl : ∀ b, uv.ownBlock = some b → b < w.heap.size := fun b hb => ((show w.ownsRow 0 61 3 uv us.length (usCells us) from HO.out).lt b hb).2
  have N1 : some ba ≠ uv.ownBlock := fun e => ((HNU.out).2.2.2 ba e.symm).2.1 rfl
  have N2 : some (w.heap.size + 1) ≠ uv.ownBlock := fun e => by have := huvl _ e.symm; omega
  have hlive : own br (setM M k g) B1 (B1 k) := .inr ⟨k, HK.out, by rw [hgk]; simp, rfl⟩
  have hlA := hOA.size
  have N3 : some (B1 k) ≠ uv.ownBlock := fun e => by
    rcases hs2 (B1 k) hlive with h1 | h1
    · exact ((HNU.out).2.2.2 _ e.symm).1 h1
    · have := huvl _ e.symm; simp at h1; omega
  have hBk : B1 k ≠ ba := fun e => by
    rcases hs2 (B1 k) hlive with h1 | h1
    · rw [e] at h1; exact (HNU.out).1 h1
    · simp at h1; omega
  obtain ⟨i0, hi0', hz0, hz1, hz2⟩ := info_parts info61
  have HI : Hid (Yba.prog.info? 61 = some i0 ∧ i0.zero = some (.agg #[.int .i64 0, .int .i64 0, .int .i64 0]) ∧ i0.size = 3 ∧ i0.bytes = 24) := ⟨hi0', hz0, hz1, hz2⟩
  have HOWN2 : Hid (w2.ownsRow 0 61 3 uv us.length (usCells us)) := hown2
  have HC : Hid (w2.cell? ⟨ba, 4, none⟩ = some uv ∧ w2.cell? ⟨w.heap.size + 1, 0, none⟩ = some (.int .i64 k) ∧ w2.cell? ⟨B1 k, hm k * 5 + 2, none⟩ = some (.int .i64 g.1) ∧ w2.cell? ⟨B1 k, hm k * 5 + 3, none⟩ = some (.int .i64 g.2.1) ∧ w2.frozen? ⟨ba, 4, none⟩ = false) := ⟨c4, gl0, p2, p3, cf4⟩
  have HN : Hid (some ba ≠ uv.ownBlock ∧ some (w.heap.size + 1) ≠ uv.ownBlock ∧ some (B1 k) ≠ uv.ownBlock) := ⟨N1, N2, N3⟩
  have HR2 : Hid (Rec br init (setM M k g) B1 w2) := hR2
  have HS2 : Hid (∀ b, own br (setM M k g) B1 b → own br M B b ∨ wA.drew.heap.size ≤ b) := hs2
  have HO3 : Hid (Only (own br M B) w w2) := hO3
  have HAT2 : Hid (AtIs w2 ba br bt id uv) := hAt2
  have HONE : Hid (∀ x y z : Int, ∀ u ∈ [Value.int .i64 x, .int .i64 y, .int .i64 z], u.oneCell' = true) := fun x y z u hu => by
    simp at hu; rcases hu with rfl | rfl | rfl <;> rfl
  have lL2 : w.heap.size + 1 < w2.heap.size := World.block_lt_of_cell? _ _ gl0
  have lB2 : B1 k < w2.heap.size := World.block_lt_of_cell? _ _ p2
  clear hgk hg hR2 hs2 hSr s0 s1 s2 s3 s4 hO2 hOA hO3 hAt2 hown2 huvl hlive N1 N2 N3 hi0' hz0 hz1 hz2 ga0 A0 L0 hkb
  go_wp2
  refine wp_region_X (fun w' => w'.cell? ⟨ba, 4, none⟩ = some uv ∧ w'.cell? ⟨w.heap.size + 1, 0, none⟩ = some (.int .i64 k) ∧ w'.cell? ⟨B1 k, hm k * 5 + 2, none⟩ = some (.int .i64 g.1) ∧ w'.cell? ⟨B1 k, hm k * 5 + 3, none⟩ = some (.int .i64 g.2.1)) 20 (by kernel_rfl) ?_
  obtain ⟨SS, hSS⟩ : ∃ SS : World → Prop, SS = (fun w' => w'.cell? ⟨ba, 4, none⟩ = some uv ∧ w'.cell? ⟨w.heap.size + 1, 0, none⟩ = some (.int .i64 k) ∧ w'.cell? ⟨B1 k, hm k * 5 + 2, none⟩ = some (.int .i64 g.1) ∧ w'.cell? ⟨B1 k, hm k * 5 + 3, none⟩ = some (.int .i64 g.2.1)) := ⟨_, rfl⟩
  have hSx : (fun w' : World => w'.cell? ⟨ba, 4, none⟩ = some uv ∧ w'.cell? ⟨w.heap.size + 1, 0, none⟩ = some (.int .i64 k) ∧ w'.cell? ⟨B1 k, hm k * 5 + 2, none⟩ = some (.int .i64 g.1) ∧ w'.cell? ⟨B1 k, hm k * 5 + 3, none⟩ = some (.int .i64 g.2.1)) w2.drew := ⟨(HC.out).1, (HC.out).2.1, (HC.out).2.2.1, (HC.out).2.2.2.1⟩
  clear hSS SS
  refine wpAnyX_takeD 0 (some 244) (v := ?v0) rfl (by rfl) (by kernel_rfl) (by kernel_rfl) (by kernel_rfl) (by kernel_rfl) (fun _ _ _ h => h) hSx (by rfl) ?y0 ?r0
  case y0 => intro wz hSw; obtain ⟨z1, z2, z3, z4⟩ := hSw; go_simp <;> with_reducible rfl
  simp only [Act.put, List.setIfInBounds_toArray, List.set_cons_zero, List.set_cons_succ]
  refine wpAnyX_takeD 1 (some 245) (v := ?v1) rfl (by rfl) (by kernel_rfl) (by kernel_rfl) (by kernel_rfl) (by kernel_rfl) (fun _ _ _ h => h) hSx (by rfl) ?y1 ?r1
  case y1 => intro wz hSw; obtain ⟨z1, z2, z3, z4⟩ := hSw; go_simp <;> with_reducible rfl
  simp only [Act.put, List.setIfInBounds_toArray, List.set_cons_zero, List.set_cons_succ]
  refine wpAnyX_takeD 2 (some 246) (v := ?v2) rfl (by rfl) (by kernel_rfl) (by kernel_rfl) (by kernel_rfl) (by kernel_rfl) (fun _ _ _ h => h) hSx (by rfl) ?y2 ?r2
  case y2 => intro wz hSw; obtain ⟨z1, z2, z3, z4⟩ := hSw; go_simp <;> with_reducible rfl
  simp only [Act.put, List.setIfInBounds_toArray, List.set_cons_zero, List.set_cons_succ]
  refine wpAnyX_takeD 3 (some 247) (v := ?v3) rfl (by rfl) (by kernel_rfl) (by kernel_rfl) (by kernel_rfl) (by kernel_rfl) (fun _ _ _ h => h) hSx (by rfl) ?y3 ?r3
  case y3 => intro wz hSw; obtain ⟨z1, z2, z3, z4⟩ := hSw; go_simp <;> with_reducible rfl
  simp only [Act.put, List.setIfInBounds_toArray, List.set_cons_zero, List.set_cons_succ]
  refine wpAnyX_takeD 4 (some 248) (v := ?v4) rfl (by rfl) (by kernel_rfl) (by kernel_rfl) (by kernel_rfl) (by kernel_rfl) (fun _ _ _ h => h) hSx (by rfl) ?y4 ?r4
  case y4 => intro wz hSw; obtain ⟨z1, z2, z3, z4⟩ := hSw; go_simp <;> with_reducible rfl
  simp only [Act.put, List.setIfInBounds_toArray, List.set_cons_zero, List.set_cons_succ]
  refine wpAnyX_takeD 5 (some 249) (v := ?v5) rfl (by rfl) (by kernel_rfl) (by kernel_rfl) (by kernel_rfl) (by kernel_rfl) (fun _ _ _ h => h) hSx (by rfl) ?y5 ?r5
  case y5 => intro wz hSw; obtain ⟨z1, z2, z3, z4⟩ := hSw; go_simp <;> with_reducible rfl
  simp only [Act.put, List.setIfInBounds_toArray, List.set_cons_zero, List.set_cons_succ]
  refine wpAnyX_takeD 6 (some 250) (v := ?v6) rfl (by rfl) (by kernel_rfl) (by kernel_rfl) (by kernel_rfl) (by kernel_rfl) (fun _ _ _ h => h) hSx (by rfl) ?y6 ?r6
  case y6 => intro wz hSw; obtain ⟨z1, z2, z3, z4⟩ := hSw; go_simp <;> with_reducible rfl
  simp only [Act.put, List.setIfInBounds_toArray, List.set_cons_zero, List.set_cons_succ]
  refine wpAnyX_takeD 7 (some 251) (v := ?v7) rfl (by rfl) (by kernel_rfl) (by kernel_rfl) (by kernel_rfl) (by kernel_rfl) (fun _ _ _ h => h) hSx (by rfl) ?y7 ?r7
  case y7 => intro wz hSw; obtain ⟨z1, z2, z3, z4⟩ := hSw; go_simp <;> with_reducible rfl
  simp only [Act.put, List.setIfInBounds_toArray, List.set_cons_zero, List.set_cons_succ]
  refine wpAnyX_takeD 8 (some 252) (v := ?v8) rfl (by rfl) (by kernel_rfl) (by kernel_rfl) (by kernel_rfl) (by kernel_rfl) (fun _ _ _ h => h) hSx (by rfl) ?y8 ?r8
  case y8 => intro wz hSw; obtain ⟨z1, z2, z3, z4⟩ := hSw; go_simp <;> with_reducible rfl
  simp only [Act.put, List.setIfInBounds_toArray, List.set_cons_zero, List.set_cons_succ]
  refine wpAnyX_takeD 9 (some 253) (v := ?v9) rfl (by rfl) (by kernel_rfl) (by kernel_rfl) (by kernel_rfl) (by kernel_rfl) (fun _ _ _ h => h) hSx (by rfl) ?y9 ?r9
  case y9 => intro wz hSw; obtain ⟨z1, z2, z3, z4⟩ := hSw; go_simp <;> with_reducible rfl
  simp only [Act.put, List.setIfInBounds_toArray, List.set_cons_zero, List.set_cons_succ]
  refine wpAnyX_takeD 10 (some 254) (v := ?v10) rfl (by rfl) (by kernel_rfl) (by kernel_rfl) (by kernel_rfl) (by kernel_rfl) (fun _ _ _ h => h) hSx (by rfl) ?y10 ?r10
  case y10 => intro wz hSw; obtain ⟨z1, z2, z3, z4⟩ := hSw; go_simp <;> with_reducible rfl
  simp only [Act.put, List.setIfInBounds_toArray, List.set_cons_zero, List.set_cons_succ]
  refine wpAnyX_takeD 11 (some 255) (v := ?v11) rfl (by rfl) (by kernel_rfl) (by kernel_rfl) (by kernel_rfl) (by kernel_rfl) (fun _ _ _ h => h) hSx (by rfl) ?y11 ?r11
  case y11 => intro wz hSw; obtain ⟨z1, z2, z3, z4⟩ := hSw; go_simp <;> with_reducible rfl
  simp only [Act.put, List.setIfInBounds_toArray, List.set_cons_zero, List.set_cons_succ]
  refine wpAnyX_takeD 12 (some 256) (v := ?v12) rfl (by rfl) (by kernel_rfl) (by kernel_rfl) (by kernel_rfl) (by kernel_rfl) (fun _ _ _ h => h) hSx (by rfl) ?y12 ?r12
  case y12 => intro wz hSw; obtain ⟨z1, z2, z3, z4⟩ := hSw; go_simp <;> with_reducible rfl
  simp only [Act.put, List.setIfInBounds_toArray, List.set_cons_zero, List.set_cons_succ]
  refine wpAnyX_takeD 13 (some 257) (v := ?v13) rfl (by rfl) (by kernel_rfl) (by kernel_rfl) (by kernel_rfl) (by kernel_rfl) (fun _ _ _ h => h) hSx (by rfl) ?y13 ?r13
  case y13 => intro wz hSw; obtain ⟨z1, z2, z3, z4⟩ := hSw; go_simp <;> with_reducible rfl
  simp only [Act.put, List.setIfInBounds_toArray, List.set_cons_zero, List.set_cons_succ]
  refine wpAnyX_takeD 14 (some 258) (v := ?v14) rfl (by rfl) (by kernel_rfl) (by kernel_rfl) (by kernel_rfl) (by kernel_rfl) (fun _ _ _ h => h) hSx (by rfl) ?y14 ?r14
  case y14 => intro wz hSw; obtain ⟨z1, z2, z3, z4⟩ := hSw; go_simp <;> with_reducible rfl
  simp only [Act.put, List.setIfInBounds_toArray, List.set_cons_zero, List.set_cons_succ]
  refine wpAnyX_takeD 15 (some 259) (v := ?v15) rfl (by rfl) (by kernel_rfl) (by kernel_rfl) (by kernel_rfl) (by kernel_rfl) (fun _ _ _ h => h) hSx (by rfl) ?y15 ?r15
  case y15 => intro wz hSw; obtain ⟨z1, z2, z3, z4⟩ := hSw; go_simp <;> with_reducible rfl
  simp only [Act.put, List.setIfInBounds_toArray, List.set_cons_zero, List.set_cons_succ]
  refine wpAnyX_one (i := 16) rfl (by kernel_rfl) (by rfl) ?_
  intro K16 hK16
  go_simp
  refine hK16 _ _ (.inr ⟨?_, ?_, ?_, ?_⟩) ?_
  · exact (World.cell?_alloc_lt _ _ _ (by exact lba2)).trans (HC.out).1
  · exact (World.cell?_alloc_lt _ _ _ (by exact lL2)).trans (HC.out).2.1
  · exact (World.cell?_alloc_lt _ _ _ (by exact lB2)).trans (HC.out).2.2.1
  · exact (World.cell?_alloc_lt _ _ _ (by exact lB2)).trans (HC.out).2.2.2.1
  clear hK16 K16 hSx
  refine wpAnyX_oneD 17 (some 261) rfl (by rfl) (by kernel_rfl) (by rfl) ?_
  intro K17 hK17
  refine wp_append_lies _ _ _ 58 (by rfl) 0 61 i0 _ 3 24 Yba.underlying58 HI.out.1 HI.out.2.1 HI.out.2.2.1 HI.out.2.2.2 rfl (by omega) uv us.length (usCells us) (by rfl) (by exact ((show w2.ownsRow 0 61 3 uv us.length (usCells us) from HOWN2.out).alloc _).drew) ⟨w2.heap.size, 0, none⟩ 1 1 [.int .i64 k, .int .i64 g.1, .int .i64 g.2.1] (by rfl) (by rfl) (by exact three_new _ _ _ _ _) (by exact HONE.out _ _ _) (by omega) (by unfold maxLen; omega) (by omega) (Nat.zero_le _) (w2.heap.size + 1) (by simp) ?_
  intro gg cap w3 hown3 hgrow hat3 hlt3
  have k4 := far_cell hgrow (HC.out).1 (HN.out).1
  have k5 := far_cell hgrow (HC.out).2.1 (HN.out).2.1
  have k6 := far_cell hgrow (HC.out).2.2.1 (HN.out).2.2
  have k7 := far_cell hgrow (HC.out).2.2.2.1 (HN.out).2.2
  have kf := far_frozen hgrow lba2 (HC.out).2.2.2.2 (HN.out).1
  refine hK17 _ _ (.inr ⟨k4, k5, k6, k7⟩) ?_
  clear hK17 K17
  simp only [Act.put, List.setIfInBounds_toArray, List.set_cons_zero, List.set_cons_succ]
  refine wpAnyX_one (i := 18) rfl (by kernel_rfl) (by rfl) ?_
  intro K18 hK18
  go_simp
  refine hK18 _ _ (.inr ⟨k4, k5, k6, k7⟩) ?_
  clear hK18 K18
  refine wpAnyX_one (i := 19) rfl (by kernel_rfl) (by rfl) ?_
  intro K19 hK19
  go_simp
  refine hK19 _ _ (.inr ⟨k4, k5, k6, k7⟩) ?_
  clear hK19 K19
  refine wpAnyX_one (i := 20) rfl (by kernel_rfl) (by rfl) ?_
  intro K20 hK20
  go_simp
  refine hK20 _ _ (.inl rfl) ?_
  clear hK20 K20
  refine wpAnyX_done (by kernel_rfl) ?_ _
  refine NoPanic.normal ?_
  obtain ⟨w4, hw4⟩ : ∃ w4, w4 = w3.setCell ⟨ba, 4, none⟩ (.slice (some ⟨gg, 0, none⟩) (us.length + 1) cap) := ⟨_, rfl⟩
  rw [← hw4]
  have hgk : setM M k g k = some g := by simp [setM]
  have hR2 := (show Rec br init (setM M k g) B1 w2 from HR2.out)
  have hs2 := (show ∀ b, own br (setM M k g) B1 b → own br M B b ∨ wA.drew.heap.size ≤ b from HS2.out)
  have hO3 := (show Only (own br M B) w w2 from HO3.out)
  have huvl : ∀ b, uv.ownBlock = some b → b < w.heap.size := fun b hb => ((show w.ownsRow 0 61 3 uv us.length (usCells us) from HO.out).lt b hb).2
  have hAs : wA.drew.heap.size = wA.heap.size := rfl
  have hs2' : ∀ b, own br (setM M k g) B1 b → own br M B b ∨ w.heap.size ≤ b := fun b hb => by
    rcases hs2 b hb with h1 | h1
    · exact .inl h1
    · right; omega
  have hnu' : ∀ b, uv.ownBlock = some b → ¬ own br (setM M k g) B1 b := fun b hb ho => by
    rcases hs2' b ho with h1 | h1
    · exact ((HNU.out).2.2.2 b hb).1 h1
    · have := huvl b hb; omega
  have hna' : ¬ own br (setM M k g) B1 ba := fun ho => by
    rcases hs2' ba ho with h1 | h1
    · exact (HNU.out).1 h1
    · omega
  have hO23 : Only (fun b => uv.ownBlock = some b) w2 w3 := Only.ofGrown hgrow
  have hO24 : Only (fun b => uv.ownBlock = some b ∨ b = ba) w2 w4 := by
    rw [hw4]
    exact Only.setCell (own := fun b => uv.ownBlock = some b ∨ b = ba) (hO23.wider (fun b hb => .inl hb)) (.inl (.inr rfl)) _
  have hR4 : Rec br init (setM M k g) B1 w4 := hR2.only hO24 (fun b hb ho => by
    rcases ho with h1 | h1
    · exact hnu' b h1 hb
    · subst h1; exact hna' hb)
  have hAt4 : AtIs w4 ba br bt id (.slice (some ⟨gg, 0, none⟩) (us.length + 1) cap) := by
    have h3 : w3.heap[ba]? = some (.cells #[.pointer (some ⟨br, 0, none⟩), .int .i64 id, .pointer (some ⟨bt, 0, none⟩), .slice none 0 0, uv, .slice none 0 0, .int .u64 0] 70 (0, 0)) :=
      (hO23.block ba lba2 (fun e => (HN.out).1 e.symm)).trans HAT2.out
    unfold AtIs
    rw [hw4, heap_setCell_same h3]
    rfl
  have hgne : gg ≠ ba := fun e => by
    rcases hat3 with h1 | h1
    · exact (HN.out).1 (by rw [h1, e])
    · omega
  have hown4 : w4.ownsRow 0 61 3 (.slice (some ⟨gg, 0, none⟩) (us.length + 1) cap) (us.length + 1) (usCells us ++ [.int .i64 k, .int .i64 g.1, .int .i64 g.2.1]) := by
    rw [hw4]
    exact ownsRow_setCell_other hown3 (by simp [Value.ownBlock]; exact hgne) _
  obtain ⟨hkb, S4, hS4, t0, t1, t2, t3, t4⟩ := hR4.slots k g HK.out hgk
  have p2' : w4.cell? ⟨B1 k, hm k * 5 + 2, none⟩ = some (.int .i64 g.1) := (hS4.cell (by omega)).trans (congrArg some t2)
  have p3' : w4.cell? ⟨B1 k, hm k * 5 + 2 + 1, none⟩ = some (.int .i64 g.2.1) := (hS4.cell (by omega)).trans (congrArg some t3)
  have p4' : w4.cell? ⟨B1 k, hm k * 5 + 2 + 2, none⟩ = some (.int .i64 g.2.2) := (hS4.cell (by omega)).trans (congrArg some t4)
  have pf : ∀ j, w4.frozen? ⟨B1 k, j, none⟩ = false := fun j => hS4.frozen _
  have hrec4 : w4.cell? ⟨br, 0, none⟩ = some .nilFunc := by
    obtain ⟨R, hR, r0, _⟩ := hR4.row
    exact (hR.cell (by omega)).trans (congrArg some r0)
  have HR4 : Hid (Rec br init (setM M k g) B1 w4) := hR4
  have HS4 : Hid (w4.rowIs (B1 k) 97 40 S4 ∧ SlotIs S4 k g) := ⟨hS4, t0, t1, t2, t3, t4⟩
  have HAT4 : Hid (AtIs w4 ba br bt id (.slice (some ⟨gg, 0, none⟩) (us.length + 1) cap)) := hAt4
  have HOWN4 : Hid (w4.ownsRow 0 61 3 (.slice (some ⟨gg, 0, none⟩) (us.length + 1) cap) (us.length + 1) (usCells us ++ [.int .i64 k, .int .i64 g.1, .int .i64 g.2.1])) := hown4
  have HO24 : Hid (Only (fun b => uv.ownBlock = some b ∨ b = ba) w2 w4) := hO24
  have HNN : Hid ((∀ b, own br (setM M k g) B1 b → own br M B b ∨ w.heap.size ≤ b) ∧ (∀ b, uv.ownBlock = some b → ¬ own br (setM M k g) B1 b) ∧ (uv.ownBlock = some gg ∨ gg = w2.heap.size + 1)) := ⟨hs2', hnu', hat3⟩
  have HP : Hid (w4.cell? ⟨B1 k, hm k * 5 + 2, none⟩ = some (.int .i64 g.1) ∧ w4.cell? ⟨B1 k, hm k * 5 + 2 + 1, none⟩ = some (.int .i64 g.2.1) ∧ w4.cell? ⟨B1 k, hm k * 5 + 2 + 2, none⟩ = some (.int .i64 g.2.2) ∧ (∀ j, w4.frozen? ⟨B1 k, j, none⟩ = false) ∧ w4.cell? ⟨br, 0, none⟩ = some .nilFunc) := ⟨p2', p3', p4', pf, hrec4⟩
  clear hw4 hgk hR2 hs2 hO3 huvl hAs hs2' hnu' hna' hO23 hO24 hR4 hAt4 hown4 hS4 t0 t1 t2 t3 t4 p2' p3' p4' pf hrec4 hown3 hgrow hat3 hlt3 k4 k5 k6 k7 kf c4 cf4 p2 p3 gl0
  go_wp2_with fail
  refine (install_any ba br bt (B1 k) (hm k * 5 + 2) id v g.2.2 g.1 g.2.1 _ _ w4 HAT4.out (HP.out).2.2.2.2 (HP.out).1 (HP.out).2.1 (HP.out).2.2.1 ((HP.out).2.2.2.1 _) ((HP.out).2.2.2.1 _) ((HP.out).2.2.2.1 _) hBk hkb (HINS.out).1 (by have := (HINS.out).2; omega)).mono ?_
  rintro e w5 ⟨rfl, hw5⟩
  go_wp2
  go_ret
  rw [← show g = inst init (M k) from HGG.out]
  have hgk : setM M k g k = some g := by simp [setM]
  have hR4 := (show Rec br init (setM M k g) B1 w4 from HR4.out)
  obtain ⟨hS4, t0, t1, t2, t3, t4⟩ := (show w4.rowIs (B1 k) 97 40 S4 ∧ SlotIs S4 k g from HS4.out)
  obtain ⟨hs2', hnu', hat3⟩ := (show (∀ b, own br (setM M k g) B1 b → own br M B b ∨ w.heap.size ≤ b) ∧ (∀ b, uv.ownBlock = some b → ¬ own br (setM M k g) B1 b) ∧ (uv.ownBlock = some gg ∨ gg = w2.heap.size + 1) from HNN.out)
  have hlive : own br (setM M k g) B1 (B1 k) := .inr ⟨k, HK.out, by rw [hgk]; simp, rfl⟩
  have hO45 : Only (fun b => b = B1 k) w4 w5 := by
    rw [← hw5]
    refine Only.setCell (own := fun b => b = B1 k) ?_ (.inl rfl) _
    refine Only.setCell (own := fun b => b = B1 k) ?_ (.inl rfl) _
    refine Only.setCell (own := fun b => b = B1 k) ?_ (.inl rfl) _
    exact Only.refl _ _
  have hput : Rec br init (setM (setM M k g) k (id, v, g.2.2 + 1)) B1 w5 := by
    refine hR4.put HK.out hgk (S := upd (upd (upd S4 (hm k * 5 + 2) (.int .i64 id)) (hm k * 5 + 2 + 1) (.int .i64 v)) (hm k * 5 + 2 + 2) (.int .i64 (g.2.2 + 1))) ?_ ?_ hO45
    · rw [← hw5]; exact rowIs_upd (rowIs_upd (rowIs_upd hS4 _ _) _ _) _ _
    · refine ⟨?_, ?_, ?_, ?_, ?_⟩
      · rw [upd_other _ _ _ _ (by omega), upd_other _ _ _ _ (by omega), upd_other _ _ _ _ (by omega)]; exact t0
      · rw [upd_other _ _ _ _ (by omega), upd_other _ _ _ _ (by omega), upd_other _ _ _ _ (by omega)]; exact t1
      · rw [upd_other _ _ _ _ (by omega), upd_other _ _ _ _ (by omega), upd_same]
      · rw [upd_other _ _ _ _ (by omega), upd_same]
      · rw [upd_same]
  rw [setM_setM] at hput
  have hown' : ∀ b, own br (setM M k (id, v, g.2.2 + 1)) B1 b → own br (setM M k g) B1 b := fun b hb => own_put (M := setM M k g) (g' := (id, v, g.2.2 + 1)) hgk b (by rw [setM_setM]; exact hb)
  have hgn : ¬ own br (setM M k g) B1 gg := fun ho => by
    rcases hat3 with h1 | h1
    · exact hnu' gg h1 ho
    · have := (show Rec br init (setM M k g) B1 w2 from HR2.out).lt ho; omega
  have hO24 := (show Only (fun b => uv.ownBlock = some b ∨ b = ba) w2 w4 from HO24.out)
  have hO02 := (show Only (own br M B) w w2 from HO3.out)
  refine ⟨rfl, B1, .slice (some ⟨gg, 0, none⟩) (us.length + 1) cap, hput, ?_, ?_, ?_, fun b hb => hs2' b (hown' b hb), ?_⟩
  · exact (hO45.block ba (lt_of_heap HAT4.out) (fun e => hBk e.symm)).trans HAT4.out
  · have e : usCells (us ++ [(k, g.1, g.2.1)]) = usCells us ++ [.int .i64 k, .int .i64 g.1, .int .i64 g.2.1] := by simp [usCells]
    rw [e]
    exact hO45.ownsRow HOWN4.out (fun b hb e => by
      simp [Value.ownBlock] at hb
      subst hb; subst e; exact hgn hlive)
  · have h1 : Only (fun b => own br M B b ∨ b = ba ∨ uv.ownBlock = some b) w w4 := (hO02.wider (o' := fun b => own br M B b ∨ b = ba ∨ uv.ownBlock = some b) (fun b hb => .inl hb)).trans hO24 (fun b hb => by
      rcases hb with h | h
      · exact .inl (.inr (.inr h))
      · exact .inl (.inr (.inl h)))
    exact h1.trans hO45 (fun b hb => by
      subst hb
      rcases hs2' _ hlive with h | h
      · exact .inl (.inl h)
      · exact .inr h)
  · intro b hb
    simp [Value.ownBlock] at hb
    subst hb
    refine ⟨?_, fun ho => hgn (hown' _ ho)⟩
    rcases hat3 with h1 | h1
    · exact .inl h1
    · right; have := hO02.size; omega
end Go.Proofs.Ybulkaqgy.Rec

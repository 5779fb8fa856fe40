/-
  The walk of history.newGraph (function 6): the counting sort's contract.
-/
import Derived.Test.YbulkaqgyRows
import Derived.Test.YbulkaqgyCsrMath
import Derived.Test.YbulkaqgyHeap
import Derived.WalkKit
import Derived.WalkSpells
import Derived.WalkLawsBesides
import Derived.Deep.OwnRows
import Derived.Deep.RegionHeld3
import Derived.BigRegion
import Derived.Deep.DeepCutAuto
namespace Go.Proofs.Ybulkaqgy.Csr
open Go.RowKit Go.Deep
set_option linter.unusedVariables false

theorem info3 : (Yba.prog.info? 3).map (fun i => (i.zero, i.size, i.bytes)) = some (some (.int .i64 0), 1, 8) := by kernel_rfl
theorem info28 : (Yba.prog.info? 28).map (fun i => (i.zero, i.size, i.bytes)) = some (some (.agg #[.int .i64 0, .int .i64 0]), 2, 16) := by kernel_rfl

/-- What newGraph has laid so far: the result's cell block, g's block, start's row, succ's row. -/
structure St (w : World) (n m bg bs bq : Nat) (f g : Nat → Int) (wr : World) : Prop where
  below : Below w.heap.size w wr
  hr : wr.heap[w.heap.size]? = some (.cells #[.slice none 0 0, .slice none 0 0] 31 (0, 0))
  hg : wr.heap[bg]? = some (.cells #[.slice (some ⟨bs, 0, none⟩) (n + 1) (n + 1), .slice (some ⟨bq, 0, none⟩) m m] 31 (0, 0))
  rs : wr.rowIs bs 3 (n + 1) (fun j => .int .i64 (f j))
  rq : wr.rowIs bq 3 m (fun j => .int .i64 (g j))
  lg : w.heap.size < bg
  ls : w.heap.size < bs
  lq : w.heap.size < bq
  gs : bg ≠ bs
  gq : bg ≠ bq
  sq : bs ≠ bq

theorem St.start {w wr : World} {n m bg bs bq : Nat} (hb : Below w.heap.size w wr)
    (h : wr.heap[w.heap.size]? = some (.cells #[.slice none 0 0, .slice none 0 0] 31 (0, 0)) ∧
      wr.heap[bg]? = some (.cells #[.slice (some ⟨bs, 0, none⟩) (n + 1) (n + 1), .slice (some ⟨bq, 0, none⟩) m m] 31 (0, 0)) ∧
      wr.heap[bs]? = some (.cells (madeCells #[.int .i64 0] (n + 1)) 3 (0, 0)) ∧ wr.heap[bq]? = some (.cells (madeCells #[.int .i64 0] m) 3 (0, 0)))
    (l : w.heap.size < bg ∧ w.heap.size < bs ∧ w.heap.size < bq ∧ bg ≠ bs ∧ bg ≠ bq ∧ bs ≠ bq) : St w n m bg bs bq (fun _ => 0) (fun _ => 0) wr :=
  ⟨hb, h.1, h.2.1, rowIs_of_made h.2.2.1, rowIs_of_made h.2.2.2, l.1, l.2.1, l.2.2.1, l.2.2.2.1, l.2.2.2.2.1, l.2.2.2.2.2⟩

theorem three (w : World) (r o1 o2 o3 : Obj) : Below w.heap.size w ((((w.alloc r).alloc o1).alloc o2).alloc o3).drew ∧ ((((w.alloc r).alloc o1).alloc o2).alloc o3).drew.heap[w.heap.size]? = some r ∧
    ((((w.alloc r).alloc o1).alloc o2).alloc o3).drew.heap[w.heap.size + 1]? = some o1 ∧ ((((w.alloc r).alloc o1).alloc o2).alloc o3).drew.heap[w.heap.size + 1 + 1]? = some o2 ∧ ((((w.alloc r).alloc o1).alloc o2).alloc o3).drew.heap[w.heap.size + 1 + 1 + 1]? = some o3 := by
  refine ⟨Below.drew (((((Below.refl _ _).alloc (by simp) _).alloc (by simp) _).alloc (by simp; omega) _).alloc (by simp; omega) _), ?_, ?_, ?_, ?_⟩
  · rw [heap_drew, heap_alloc_if, if_neg (by simp; omega), heap_alloc_if, if_neg (by simp; omega), heap_alloc_if, if_neg (by simp), heap_alloc_if, if_pos rfl]
  · rw [heap_drew, heap_alloc_if, if_neg (by simp), heap_alloc_if, if_neg (by simp), heap_alloc_if, if_pos (by simp)]
  · rw [heap_drew, heap_alloc_if, if_neg (by simp), heap_alloc_if, if_pos (by simp)]
  · rw [heap_drew, heap_alloc_if, if_pos (by simp)]

theorem St.drew {w wr : World} {n m bg bs bq : Nat} {f g : Nat → Int} (h : St w n m bg bs bq f g wr) : St w n m bg bs bq f g wr.drew :=
  ⟨h.below.drew, h.hr, h.hg, h.rs, h.rq, h.lg, h.ls, h.lq, h.gs, h.gq, h.sq⟩

theorem St.alloc {w wr : World} {n m bg bs bq : Nat} {f g : Nat → Int} (h : St w n m bg bs bq f g wr) (o : Obj) : St w n m bg bs bq f g (wr.alloc o) :=
  ⟨h.below.alloc h.below.size o, by rw [heap_alloc_if, if_neg (by have := lt_of_heap h.hr; omega)]; exact h.hr,
    by rw [heap_alloc_if, if_neg (by have := lt_of_heap h.hg; omega)]; exact h.hg, h.rs.alloc o, h.rq.alloc o, h.lg, h.ls, h.lq, h.gs, h.gq, h.sq⟩

theorem St.setS {w wr : World} {n m bg bs bq : Nat} {f f' g : Nat → Int} (h : St w n m bg bs bq f g wr) (i : Nat) (x : Int) (e : ∀ j, j < n + 1 → f' j = if j = i then x else f j) :
    St w n m bg bs bq f' g (wr.setCell ⟨bs, i, none⟩ (.int .i64 x)) :=
  ⟨h.below.setCell (by have := h.ls; simp; omega) _, by rw [heap_setCell_other _ _ _ _ (by have := h.ls; simp; omega)]; exact h.hr,
    by rw [heap_setCell_other _ _ _ _ (by have := h.gs; simpa using this)]; exact h.hg,
    (h.rs.set i _).congr (fun j hj => by rw [e j hj]; split <;> rfl), h.rq.setOther (by have := h.sq; simp; omega) _, h.lg, h.ls, h.lq, h.gs, h.gq, h.sq⟩

theorem St.setQ {w wr : World} {n m bg bs bq : Nat} {f g g' : Nat → Int} (h : St w n m bg bs bq f g wr) (i : Nat) (x : Int) (e : ∀ j, j < m → g' j = if j = i then x else g j) :
    St w n m bg bs bq f g' (wr.setCell ⟨bq, i, none⟩ (.int .i64 x)) :=
  ⟨h.below.setCell (by have := h.lq; simp; omega) _, by rw [heap_setCell_other _ _ _ _ (by have := h.lq; simp; omega)]; exact h.hr,
    by rw [heap_setCell_other _ _ _ _ (by have := h.gq; simpa using this)]; exact h.hg,
    h.rs.setOther (by have := h.sq; simp; omega) _, (h.rq.set i _).congr (fun j hj => by rw [e j hj]; split <;> rfl), h.lg, h.ls, h.lq, h.gs, h.gq, h.sq⟩

theorem step1 (es : List (Nat × Int)) (n t : Nat) (f : Nat → Int) (ht : t < es.length) (hf : ∀ j, j ≤ n → f j = if j = 0 then 0 else (cntEq (es.take t) (j - 1) : Int)) (hu : fr es t < n) :
    ∀ j, j ≤ n → (if j = fr es t + 1 then f (fr es t + 1) + 1 else f j) = if j = 0 then 0 else (cntEq (es.take (t + 1)) (j - 1) : Int) := by
  intro j hj
  by_cases h0 : j = 0
  · subst h0; rw [if_neg (by omega), hf 0 (by omega)]; rfl
  · rw [cntEq_take_succ es t (j - 1) ht, if_neg h0]
    by_cases h1 : j = fr es t + 1
    · subst h1
      rw [if_pos rfl, hf _ hj, if_neg h0, Nat.add_sub_cancel, if_pos rfl]; simp
    · rw [if_neg h1, hf j hj, if_neg h0, if_neg (by omega)]; simp

theorem step2 (es : List (Nat × Int)) (n t : Nat) (f : Nat → Int) (hf : ∀ j, j ≤ n → f j = if j ≤ t then (cntLt es j : Int) else (cntEq es (j - 1) : Int)) (hu : t < n) :
    ∀ j, j ≤ n → (if j = t + 1 then f (t + 1) + f t else f j) = if j ≤ t + 1 then (cntLt es j : Int) else (cntEq es (j - 1) : Int) := by
  intro j hj
  by_cases h1 : j = t + 1
  · subst h1
    rw [if_pos rfl, if_pos (Nat.le_refl _), hf _ hj, hf _ (by omega), if_neg (by omega), if_pos (Nat.le_refl _), cntLt_succ]
    simp; omega
  · rw [if_neg h1, hf j hj]
    by_cases h2 : j ≤ t
    · rw [if_pos h2, if_pos (by omega)]
    · rw [if_neg h2, if_neg (by omega)]

theorem St.grown {w wr w1 : World} {n m bg bs bq : Nat} {f g : Nat → Int} (h : St w n m bg bs bq f g wr) (hg : wr.grownBy w1 none) : St w n m bg bs bq f g w1 :=
  have hb : ∀ b o, wr.heap[b]? = some o → w1.heap[b]? = wr.heap[b]? := fun b o hb => hg.block b (lt_of_heap hb) (by simp)
  have rk : ∀ b t k F, wr.rowIs b t k F → w1.rowIs b t k F := fun b t k F hr => hr.of_block (hg.block b hr.lt (by simp))
  ⟨h.below.grown hg h.below.size (by simp), by rw [hb _ _ h.hr]; exact h.hr, by rw [hb _ _ h.hg]; exact h.hg, rk _ _ _ _ h.rs, rk _ _ _ _ h.rq, h.lg, h.ls, h.lq, h.gs, h.gq, h.sq⟩

/-- A store into a block that is none of the four. -/
theorem St.setF {w wr : World} {n m bg bs bq bf : Nat} {f g : Nat → Int} (h : St w n m bg bs bq f g wr) (i : Nat) (v : Value) (l : w.heap.size < bf) (h1 : bf ≠ bg) (h2 : bf ≠ bs) (h3 : bf ≠ bq) :
    St w n m bg bs bq f g (wr.setCell ⟨bf, i, none⟩ v) :=
  ⟨h.below.setCell (by simp; omega) _, by rw [heap_setCell_other _ _ _ _ (by simp; omega)]; exact h.hr,
    by rw [heap_setCell_other _ _ _ _ (by simp; omega)]; exact h.hg,
    h.rs.setOther (by simp; omega) _, h.rq.setOther (by simp; omega) _, h.lg, h.ls, h.lq, h.gs, h.gq, h.sq⟩

/-- fill's row behind the append -/
theorem fill_row {w1 : World} {B n : Nat} {v : Value} {F : Nat → Int} (hn : 0 < n) (h : w1.ownsRow B 3 1 v n ((List.range n).map fun j => Value.int .i64 (F j))) :
    ∃ bf cap G, v = .slice (some ⟨bf, 0, none⟩) n cap ∧ B ≤ bf ∧ n ≤ cap ∧ w1.rowIs bf 3 cap G ∧ ∀ j, j < n → G j = .int .i64 (F j) := by
  obtain ⟨_, h2⟩ := h
  rcases h2 with ⟨_, h0⟩ | ⟨g, cap, cur, rfl, hg, hh, hnc, hcm, hsz, htake⟩
  · omega
  · refine ⟨g, cap, fun j => cur.getD j (.bool false), rfl, hg, hnc, ⟨cur, hh, by simpa using hsz, fun i hi => ?_⟩, fun j hj => ?_⟩
    · have : i < cur.size := by omega
      simp [Array.getD, this]
    · have h3 : (cur.toList.take (n * 1))[j]? = some (Value.int .i64 (F j)) := by rw [htake]; simp [hj]
      rw [List.getElem?_take, if_pos (by omega)] at h3
      have : j < cur.size := by omega
      simp [Array.getD, this] at h3 ⊢
      exact h3

theorem step3a (es : List (Nat × Int)) (n t : Nat) (G : Nat → Value) (ht : t < es.length) (hG : ∀ u, u < n → G u = .int .i64 ((cntLt es u + cntEq (es.take t) u : Nat) : Int)) :
    ∀ u, u < n → (if u = fr es t then Value.int .i64 ((pos es t : Int) + 1) else G u) = .int .i64 ((cntLt es u + cntEq (es.take (t + 1)) u : Nat) : Int) := by
  intro u hu
  rw [cntEq_take_succ es t u ht]
  by_cases h : u = fr es t
  · subst h; rw [if_pos rfl, if_pos rfl]; unfold pos; congr 1
  · rw [if_neg h, if_neg (fun e => h e.symm), hG u hu]; simp

theorem step3b (es : List (Nat × Int)) (t : Nat) (g : Nat → Int) (ht : t < es.length) (hg : ∀ i, i < t → g (pos es i) = tg es i) :
    ∀ i, i < t + 1 → (if pos es i = pos es t then tg es t else g (pos es i)) = tg es i := by
  intro i hi
  by_cases h : i = t
  · subst h; rw [if_pos rfl]
  · rw [if_neg (pos_inj es i t (by omega) ht), hg i (by omega)]

set_option maxHeartbeats 1000000 in
theorem newGraph_any (es : List (Nat × Int)) (n be m : Nat) (w : World) (hmm : Hid (es.length = m)) (hn0 : 0 < n) (hn : n ≤ 64) (hm : m ≤ 1024) (hfr : ∀ i, i < m → fr es i < n)
    (hbe : be < w.heap.size)
    (hc0 : ∀ i, i < m → w.cell? ⟨be, i * 2, none⟩ = some (.int .i64 (fr es i)))
    (hc1 : ∀ i, i < m → w.cell? ⟨be, i * 2 + 1, none⟩ = some (.int .i64 (tg es i))) :
    Calls Yba.prog 6 #[.int .i64 n, .slice (some ⟨be, 0, none⟩) m m] w fun e w' =>
      ∃ bs bq, e = .returned (.agg #[.slice (some ⟨bs, 0, none⟩) (n + 1) (n + 1), .slice (some ⟨bq, 0, none⟩) m m]) ∧
        bs ≠ bq ∧ w.heap.size ≤ bs ∧ w.heap.size ≤ bq ∧ Below w.heap.size w w' ∧
        w'.rowIs bs 3 (n + 1) (fun j => .int .i64 (cntLt es j)) ∧
        ∃ q : Nat → Int, w'.rowIs bq 3 m (fun j => .int .i64 (q j)) ∧ ∀ i, i < m → q (pos es i) = tg es i := by
  have hmk1 := fun w => run_make_row' (P := Yba.prog) 29 3 (.int .i64 0) 8 Yba.underlying29 info3 rfl .i64 .i64 (n + 1) (by omega) (by omega) w
  have ec : ((n + 1 : Nat) : Int) = (n : Int) + 1 := by omega
  rw [ec] at hmk1
  have hmk2 := fun w => run_make_row' (P := Yba.prog) 29 3 (.int .i64 0) 8 Yba.underlying29 info3 rfl .i64 .i64 m (by omega) (by omega) w
  clear ec
  go_enter Yba.func6, Yba.ntmps6
  go_wp2
  go_cut [5] (fun p wr => ∃ bg bs bq : Nat, p = .pointer (some ⟨bg, 0, none⟩) ∧ St w n m bg bs bq (fun _ => 0) (fun _ => 0) wr)
  case first =>
    go_region
    all_goals try go_wp2
    all_goals go_meet
    all_goals clear hmk1 hmk2 hc0 hc1 hfr
    all_goals
      first
        | exact ⟨_, _, _, rfl, St.start (three w _ _ _ _).1 ⟨(three w _ _ _ _).2.1, (three w _ _ _ _).2.2.2.2, (three w _ _ _ _).2.2.1, (three w _ _ _ _).2.2.2.1⟩ (by omega)⟩
        | exact ⟨_, _, _, rfl, St.start (three w _ _ _ _).1 ⟨(three w _ _ _ _).2.1, (three w _ _ _ _).2.2.2.2, (three w _ _ _ _).2.2.2.1, (three w _ _ _ _).2.2.1⟩ (by omega)⟩
        | exact ⟨_, _, _, rfl, St.start (three w _ _ _ _).1 ⟨(three w _ _ _ _).2.1, (three w _ _ _ _).2.2.2.1, (three w _ _ _ _).2.2.1, (three w _ _ _ _).2.2.2.2⟩ (by omega)⟩
        | exact ⟨_, _, _, rfl, St.start (three w _ _ _ _).1 ⟨(three w _ _ _ _).2.1, (three w _ _ _ _).2.2.2.1, (three w _ _ _ _).2.2.2.2, (three w _ _ _ _).2.2.1⟩ (by omega)⟩
        | exact ⟨_, _, _, rfl, St.start (three w _ _ _ _).1 ⟨(three w _ _ _ _).2.1, (three w _ _ _ _).2.2.1, (three w _ _ _ _).2.2.2.1, (three w _ _ _ _).2.2.2.2⟩ (by omega)⟩
        | exact ⟨_, _, _, rfl, St.start (three w _ _ _ _).1 ⟨(three w _ _ _ _).2.1, (three w _ _ _ _).2.2.1, (three w _ _ _ _).2.2.2.2, (three w _ _ _ _).2.2.2.1⟩ (by omega)⟩
  case rest =>
    clear hmk1 hmk2
    obtain ⟨bg, bs, bq, rfl, hS⟩ := hcut
    go_wp2
    go_loopg [7, 21] m (fun k e i wr => ∃ t : Nat, t + k = m ∧ i = .int .i64 t ∧ ∃ f : Nat → Int, St w n m bg bs bq f (fun _ => 0) wr ∧ (∀ j, j ≤ n → f j = if j = 0 then 0 else (cntEq (es.take t) (j - 1) : Int)))
    case atStart => exact ⟨0, by omega, rfl, _, hS, fun j _ => by simp [cntEq]⟩
    case round =>
      obtain ⟨t, ht, rfl, f, hS, hf⟩ := hrel
      have hsz := hS.below.size
      by_cases htm : t < m
      · have hx0 : wr.cell? ⟨be, t * 2, none⟩ = some (.int .i64 (fr es t)) := (hS.below.cell (by exact hbe)).trans (hc0 t htm)
        have hx1 : wr.cell? ⟨be, t * 2 + 1, none⟩ = some (.int .i64 (tg es t)) := (hS.below.cell (by exact hbe)).trans (hc1 t htm)
        have hg0 : wr.cell? ⟨bg, 0, none⟩ = some (.slice (some ⟨bs, 0, none⟩) (n + 1) (n + 1)) := (cell_of_heap hS.hg).trans rfl
        have hun := hfr t htm
        have hs1 : wr.cell? ⟨bs, fr es t + 1, none⟩ = some (.int .i64 (f (fr es t + 1))) := hS.rs.cell (by omega)
        have hsf : wr.frozen? ⟨bs, fr es t + 1, none⟩ = false := hS.rs.frozen _
        have hlg := lt_of_heap hS.hg
        have hls := hS.rs.lt
        have hxb : 0 ≤ f (fr es t + 1) ∧ f (fr es t + 1) ≤ 1024 := by
          rw [hf _ (by omega)]; have := cntEq_le (es.take t) (fr es t); have : (es.take t).length ≤ t := List.length_take_le _ _; simp; omega
        obtain ⟨hxb1, hxb2⟩ := hxb
        have HS : Hid _ := hS
        have HF : Hid _ := hf
        clear hc0 hc1 hfr hS hf
        generalize hu : fr es t = u at *
        have HU : Hid _ := hu
        clear hu
        generalize hx : f (u + 1) = x at *
        have HX : Hid _ := hx
        clear hx
        go_wp2
        go_roundg (gk - 1)
        case measure => omega
        case rel =>
          have hst := step1 es n t f (by have := hmm.out; omega) HF.out (by have := HU.out; omega)
          rw [show fr es t = u from HU.out, show f (u + 1) = x from HX.out] at hst
          exact ⟨t + 1, by omega, by go_num, _, ((HS.out).setS (u + 1) (x + 1) (fun j _ => rfl)).alloc _, hst⟩
      · have htm' : t = m := by omega
        have hf2 : ∀ j, j ≤ n → f j = if j ≤ 0 then (cntLt es j : Int) else (cntEq es (j - 1) : Int) := by
          intro j hj
          rw [hf j hj, htm', ← hmm.out, cntEq_take_all]
          by_cases h0 : j = 0
          · subst h0; simp [cntLt_zero]
          · rw [if_neg h0, if_neg (by omega)]
        clear hf
        have HF : Hid _ := hf2
        have HS : Hid _ := hS
        clear hS hf2 htm'
        go_wp2
        go_loopg [8, 36] n (fun k e i wr => ∃ t : Nat, t + k = n ∧ i = .int .i64 t ∧ ∃ f : Nat → Int, St w n m bg bs bq f (fun _ => 0) wr ∧ (∀ j, j ≤ n → f j = if j ≤ t then (cntLt es j : Int) else (cntEq es (j - 1) : Int)))
        case atStart => exact ⟨0, by omega, rfl, _, HS.out, HF.out⟩
        case round =>
          clear HF HS
          obtain ⟨t, ht, rfl, f, hS, hf⟩ := hrel
          have hsz := hS.below.size
          by_cases htm : t < n
          · have hg0 : wr.cell? ⟨bg, 0, none⟩ = some (.slice (some ⟨bs, 0, none⟩) (n + 1) (n + 1)) := (cell_of_heap hS.hg).trans rfl
            have hs0 : wr.cell? ⟨bs, t, none⟩ = some (.int .i64 (f t)) := hS.rs.cell (by omega)
            have hs1 : wr.cell? ⟨bs, t + 1, none⟩ = some (.int .i64 (f (t + 1))) := hS.rs.cell (by omega)
            have hsf : wr.frozen? ⟨bs, t + 1, none⟩ = false := hS.rs.frozen _
            have hlg := lt_of_heap hS.hg
            have hls := hS.rs.lt
            have hml := hmm.out
            have hxb : 0 ≤ f t ∧ f t ≤ 1024 := by
              rw [hf _ (by omega), if_pos (Nat.le_refl _)]; have := cntLt_le es t; omega
            have hyb : 0 ≤ f (t + 1) ∧ f (t + 1) ≤ 1024 := by
              rw [hf _ (by omega), if_neg (by omega)]; have := cntEq_le es (t + 1 - 1); omega
            obtain ⟨hxb1, hxb2⟩ := hxb
            obtain ⟨hyb1, hyb2⟩ := hyb
            have hst := step2 es n t f hf htm
            have HS : Hid _ := hS
            have HF : Hid _ := hst
            clear hc0 hc1 hfr hS hf hml hst
            generalize hx : f t = x at *
            have HX : Hid _ := hx
            clear hx
            generalize hy : f (t + 1) = y at *
            have HY : Hid _ := hy
            clear hy
            go_wp2
            go_region
            all_goals try go_wp2
            go_roundg (gk - 1)
            case measure => omega
            case rel =>
              exact ⟨t + 1, by omega, by go_num, _, ((HS.out).setS (t + 1) (y + x) (fun j _ => rfl)).drew, HF.out⟩
          · have htm' : t = n := by omega
            have hf2 : ∀ j, j ≤ n → f j = (cntLt es j : Int) := by
              intro j hj
              rw [hf j hj, if_pos (by omega)]
            have hrs : wr.rowIs bs 3 (n + 1) (fun j => .int .i64 (cntLt es j)) := hS.rs.congr (fun j hj => by rw [hf2 j (by omega)])
            have hS2 : St w n m bg bs bq (fun j => (cntLt es j : Int)) (fun _ => 0) wr := { hS with rs := hrs }
            have hg0 : wr.cell? ⟨bg, 0, none⟩ = some (.slice (some ⟨bs, 0, none⟩) (n + 1) (n + 1)) := (cell_of_heap hS.hg).trans rfl
            have hsz2 := hS2.below.size
            obtain ⟨i0, hi, hz0, hz1, hz2⟩ := info_parts info3
            have hnews : ∀ j u, ((List.range n).map fun j => Value.int .i64 (cntLt es j))[j]? = some u → wr.cell? ((⟨bs, 0, none⟩ : Addr).add j) = some u := by
              intro j u hj
              have hjn : j < n := by
                rcases Nat.lt_or_ge j n with h | h
                · exact h
                · simp [h] at hj
              simp [hjn] at hj
              subst hj
              rw [Addr.add_lit, Nat.zero_add]
              exact hrs.cell (by omega)
            have HS : Hid _ := hS2
            have HN : Hid _ := hnews
            have HI : Hid _ := hi
            have HZ : Hid (i0.zero = some (Value.int IntKind.i64 0) ∧ i0.size = 1 ∧ i0.bytes = 8) := ⟨hz0, hz1, hz2⟩
            clear hf2 hrs hf hS htm' hS2 hnews hi hz0 hz1 hz2
            go_wp2_with (at_builtin; refine wpList_append_own _ rfl _ _ 29 rfl wr.heap.size 3 i0 (.int .i64 0) 1 8 Yba.underlying29 HI.out HZ.out.1 HZ.out.2.1 HZ.out.2.2 rfl (by decide) _ _ _ rfl (World.ownsRow_nil _ _ _ _) ⟨bs, 0, none⟩ n (n + 1) ((List.range n).map fun j => Value.int .i64 (cntLt es j)) rfl ?c1 HN.out ?c2 ?c3 ?c4 ?c5 ?_)
            case c1 => simp
            case c2 => intro u hu; simp at hu; obtain ⟨j, _, rfl⟩ := hu; rfl
            case c3 => unfold maxLen; omega
            case c4 => omega
            case c5 => exact Nat.le_refl _
            intro v' w1 hown hgrow _
            try simp only [Nat.zero_add, List.nil_append] at hown
            obtain ⟨bf, cap, G, rfl, hbf, hncap, hrow, hG⟩ := fill_row hn0 hown
            have hS3 := (HS.out).grown hgrow
            have hbfg : bf ≠ bg := by have := lt_of_heap (HS.out).hg; omega
            have hbfs : bf ≠ bs := by have := (HS.out).rs.lt; omega
            have hbfq : bf ≠ bq := by have := (HS.out).rq.lt; omega
            have hbfw : w.heap.size < bf := by have := (HS.out).lg; have := lt_of_heap (HS.out).hg; omega
            clear HN HI HZ HS hown hgrow hsz hsz2 hg0 hbf
            have HS : Hid _ := hS3
            have HR : Hid (w1.rowIs bf 3 cap G ∧ ∀ u, u < n → G u = .int .i64 ((cntLt es u + cntEq (es.take 0) u : Nat) : Int)) := ⟨hrow, fun u hu => by rw [hG u hu, cntEq_take_zero]; simp⟩
            clear hS3 hrow hG
            go_wp2
            go_loopg [11, 60] m (fun k e i wr => ∃ t : Nat, t + k = m ∧ i = .int .i64 t ∧ ∃ g : Nat → Int, ∃ G : Nat → Value, St w n m bg bs bq (fun j => (cntLt es j : Int)) g wr ∧ wr.rowIs bf 3 cap G ∧
              (∀ u, u < n → G u = .int .i64 ((cntLt es u + cntEq (es.take t) u : Nat) : Int)) ∧ (∀ i, i < t → g (pos es i) = tg es i))
            case atStart => exact ⟨0, by omega, rfl, _, G, HS.out, (HR.out).1, (HR.out).2, fun i hi => by omega⟩
            case round =>
              clear HS HR
              obtain ⟨t, ht, rfl, g, G, hS, hrow, hG, hg⟩ := hrel
              have hsz := hS.below.size
              have hml := hmm.out
              by_cases htm : t < m
              · have hx0 : wr.cell? ⟨be, t * 2, none⟩ = some (.int .i64 (fr es t)) := (hS.below.cell (by exact hbe)).trans (hc0 t htm)
                have hx1 : wr.cell? ⟨be, t * 2 + 1, none⟩ = some (.int .i64 (tg es t)) := (hS.below.cell (by exact hbe)).trans (hc1 t htm)
                have hg1 : wr.cell? ⟨bg, 1, none⟩ = some (.slice (some ⟨bq, 0, none⟩) m m) := (cell_of_heap hS.hg).trans rfl
                have hun := hfr t htm
                have hpl := pos_lt es t (by omega)
                have hfc : wr.cell? ⟨bf, fr es t, none⟩ = some (.int .i64 (pos es t)) := (hrow.cell (by omega)).trans (by rw [hG _ hun]; rfl)
                have hff : wr.frozen? ⟨bf, fr es t, none⟩ = false := hrow.frozen _
                have hqc : wr.cell? ⟨bq, pos es t, none⟩ = some (.int .i64 (g (pos es t))) := hS.rq.cell (by omega)
                have hqf : wr.frozen? ⟨bq, pos es t, none⟩ = false := hS.rq.frozen _
                have hlg := lt_of_heap hS.hg
                have hls := hS.rs.lt
                have hlq := hS.rq.lt
                have hlf := hrow.lt
                have h3a := step3a es n t G (by omega) hG
                have h3b := step3b es t g (by omega) hg
                have HS : Hid _ := hS
                have HR : Hid _ := hrow
                have HA : Hid _ := h3a
                have HB : Hid _ := h3b
                rw [hml] at hpl
                clear hc0 hc1 hfr hS hrow hG hg h3a h3b hml
                generalize hu : fr es t = u at *
                have HU : Hid _ := hu
                clear hu
                generalize hp : pos es t = p at *
                have HP : Hid _ := hp
                clear hp
                go_wp2
                go_region
                all_goals try go_wp2
                go_roundg (gk - 1)
                case measure => omega
                case rel =>
                  refine ⟨t + 1, by omega, by go_num, fun j => if j = p then tg es t else g j, fun j => if j = u then .int .i64 ((p : Int) + 1) else G j, ?_, ?_, HA.out, HB.out⟩
                  · exact ((((HS.out).setQ p (tg es t) (fun j _ => rfl)).setF u _ hbfw hbfg hbfs hbfq).alloc _).drew
                  · have hrw : wr.rowIs bf 3 cap G := HR.out
                    exact (((hrw.setOther (by exact hbfq) _).set u _).alloc _).drew
              · have HS : Hid _ := hS
                have HG : Hid _ := hg
                have hr0 : wr.cell? ⟨w.heap.size, 0, none⟩ = some (.slice none 0 0) := (cell_of_heap hS.hr).trans rfl
                have hr1 : wr.cell? ⟨w.heap.size, 1, none⟩ = some (.slice none 0 0) := (cell_of_heap hS.hr).trans rfl
                have hrf0 : wr.frozen? ⟨w.heap.size, 0, none⟩ = false := frozen_of_heap hS.hr
                have hrf1 : wr.frozen? ⟨w.heap.size, 1, none⟩ = false := frozen_of_heap hS.hr
                have hg0 : wr.cell? ⟨bg, 0, none⟩ = some (.slice (some ⟨bs, 0, none⟩) (n + 1) (n + 1)) := (cell_of_heap hS.hg).trans rfl
                have hg1 : wr.cell? ⟨bg, 1, none⟩ = some (.slice (some ⟨bq, 0, none⟩) m m) := (cell_of_heap hS.hg).trans rfl
                have hne := hS.lg
                have hlg := lt_of_heap hS.hg
                clear hS hg hrow hG hml
                go_wp2
                refine bodyPost_ret (v := .agg #[.slice (some ⟨bs, 0, none⟩) (n + 1) (n + 1), .slice (some ⟨bq, 0, none⟩) m m]) (by simp [results, Yba.results6, go_sem, hr0, hr1]) rfl ?_
                have hS := HS.out
                have hlsz := hS.ls
                have hlqz := hS.lq
                refine ⟨bs, bq, rfl, hS.sq, by omega, by omega, (hS.below.setCell (by exact Nat.le_refl _) _).setCell (by exact Nat.le_refl _) _, ?_, g, ?_, ?_⟩
                · exact (hS.rs.setOther (by simp; omega) _).setOther (by simp; omega) _
                · exact (hS.rq.setOther (by simp; omega) _).setOther (by simp; omega) _
                · intro i hi; exact HG.out i (by omega)
end Go.Proofs.Ybulkaqgy.Csr

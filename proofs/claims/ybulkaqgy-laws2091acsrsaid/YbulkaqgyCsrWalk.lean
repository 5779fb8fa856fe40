/-
  The walk of history.LawS2091ACsr (function 3).
-/
import Derived.Test.YbulkaqgyCsrGraph
import Derived.BigQuiet
import Derived.Deep.QuietTactic
namespace Go.Proofs.Ybulkaqgy.Csr
open Go.RowKit Go.Deep
set_option linter.unusedVariables false

/-- the edges that the law makes of the raw ones -/
def mk (n len : Nat) (F T : Nat → Int) : List (Nat × Int) := (List.range len).map fun i => ((F i % (n : Int)).toNat, T i)
theorem mk_len (n len : Nat) (F T : Nat → Int) : (mk n len F T).length = len := by simp [mk]
theorem mk_fr (n len : Nat) (F T : Nat → Int) (i : Nat) (hi : i < len) : fr (mk n len F T) i = (F i % (n : Int)).toNat := by simp [mk, fr, hi]
theorem mk_tg (n len : Nat) (F T : Nat → Int) (i : Nat) (hi : i < len) : tg (mk n len F T) i = T i := by simp [mk, tg, hi]

/-- What the walk is told of the raw edges. -/
def IsEdges (w : World) (a : Option Addr) (len : Nat) (F T : Nat → Int) : Prop :=
  len = 0 ∨ ∃ b off, a = some ⟨b, off, none⟩ ∧ b < w.heap.size ∧ ∀ i, i < len → w.cell? ⟨b, off + i * 2, none⟩ = some (.int .u64 (F i)) ∧ w.cell? ⟨b, off + i * 2 + 1, none⟩ = some (.int .i64 (T i)) ∧ 0 ≤ F i ∧ F i ≤ 18446744073709551615

theorem make28 (len : Nat) (hl : len ≤ 1024) (w : World) :
    (Instr.makeSlice 23 (.int .i64 (len : Int)) (.int .i64 (len : Int))).run Yba.prog w = .ok (.slice (some ⟨w.heap.size, 0, none⟩) len len) (w.alloc (.cells (madeCells #[.int .i64 0, .int .i64 0] (len * 2)) 28)) := by
  obtain ⟨i0, hi, hz0, hz1, hz2⟩ := info_parts info28
  have h := run_make (P := Yba.prog) w 23 28 i0 _ Yba.underlying23 hi hz0 .i64 .i64 (len : Int) (len : Int) (by omega) (Int.le_refl _) (by rw [hz2]; omega) (by omega)
  rw [hz1] at h
  exact h

/-- The edges' row while it is filled. -/
structure Fill (w : World) (es : List (Nat × Int)) (len be t : Nat) (wr : World) : Prop where
  below : Below w.heap.size w wr
  lb : w.heap.size ≤ be
  row : ∃ G : Nat → Value, wr.rowIs be 28 (len * 2) G ∧ ∀ i, i < t → G (i * 2) = .int .i64 (fr es i) ∧ G (i * 2 + 1) = .int .i64 (tg es i)

theorem Fill.start (w : World) (es : List (Nat × Int)) (len : Nat) : Fill w es len w.heap.size 0 (w.alloc (.cells (madeCells #[.int .i64 0, .int .i64 0] (len * 2)) 28)) :=
  ⟨(Below.refl _ _).alloc (Nat.le_refl _) _, Nat.le_refl _, fun j => (madeCells #[.int .i64 0, .int .i64 0] (len * 2)).getD j (.bool false),
    ⟨_, heap_alloc_new _ _, size_madeCells _ _, fun i hi => by have h2 : i < (madeCells #[Value.int .i64 0, Value.int .i64 0] (len * 2)).size := by rw [size_madeCells]; exact hi
                                                               simp [Array.getD, h2]⟩, fun i hi => by omega⟩

theorem Fill.step {w : World} {es : List (Nat × Int)} {len be t : Nat} {wr : World} {G : Nat → Value} (hb : Below w.heap.size w wr) (hlb : w.heap.size ≤ be) (hrow : wr.rowIs be 28 (len * 2) G)
    (hG : ∀ i, i < t → G (i * 2) = .int .i64 (fr es i) ∧ G (i * 2 + 1) = .int .i64 (tg es i)) (o : Obj) (x y : Int) (hx : x = fr es t) (hy : y = tg es t) :
    Fill w es len be (t + 1) (((wr.setCell ⟨be, t * 2, none⟩ (.int .i64 x)).setCell ⟨be, t * 2 + 1, none⟩ (.int .i64 y)).alloc o).drew := by
  refine ⟨(((hb.setCell (by exact hlb) _).setCell (by exact hlb) _).alloc (by simp; exact hb.size) _).drew, hlb, _, (((hrow.set _ _).set _ _).alloc _).drew, fun i hi => ?_⟩
  subst hx hy
  by_cases h : i = t
  · subst h; simp
  · obtain ⟨h1, h2⟩ := hG i (by omega)
    constructor
    · rw [if_neg (by omega), if_neg (by omega)]; exact h1
    · rw [if_neg (by omega), if_neg (by omega)]; exact h2

/-- The graph laid, and the edges' row. -/
structure Gr (w : World) (es : List (Nat × Int)) (n len be bg bs bq : Nat) (q : Nat → Int) (wr : World) : Prop where
  below : Below w.heap.size w wr
  hg : wr.heap[bg]? = some (.cells #[.slice (some ⟨bs, 0, none⟩) (n + 1) (n + 1), .slice (some ⟨bq, 0, none⟩) len len] 31 (0, 0))
  rs : wr.rowIs bs 3 (n + 1) (fun j => .int .i64 (cntLt es j))
  rq : wr.rowIs bq 3 len (fun j => .int .i64 (q j))
  lbe : len = 0 ∨ be < wr.heap.size
  e0 : ∀ i, i < len → wr.cell? ⟨be, i * 2, none⟩ = some (.int .i64 (fr es i))
  e1 : ∀ i, i < len → wr.cell? ⟨be, i * 2 + 1, none⟩ = some (.int .i64 (tg es i))

theorem Gr.alloc {w : World} {es : List (Nat × Int)} {n len be bg bs bq : Nat} {q : Nat → Int} {wr : World} (h : Gr w es n len be bg bs bq q wr) (o : Obj) : Gr w es n len be bg bs bq q (wr.alloc o) :=
  ⟨h.below.alloc h.below.size o, by rw [heap_alloc_if, if_neg (by have := lt_of_heap h.hg; omega)]; exact h.hg, h.rs.alloc o, h.rq.alloc o, by have := h.lbe; simp; omega,
    fun i hi => (World.cell?_alloc_lt _ _ _ (by have := h.lbe; simp; omega)).trans (h.e0 i hi), fun i hi => (World.cell?_alloc_lt _ _ _ (by have := h.lbe; simp; omega)).trans (h.e1 i hi)⟩

theorem Gr.drewN {w : World} {es : List (Nat × Int)} {n len be bg bs bq : Nat} {q : Nat → Int} {wr : World} (h : Gr w es n len be bg bs bq q wr) (k : Nat) : Gr w es n len be bg bs bq q (wr.drewN k) :=
  ⟨below_drewN h.below k, h.hg, h.rs, h.rq, h.lbe, h.e0, h.e1⟩

set_option maxRecDepth 100000 in
set_option maxHeartbeats 2000000 in
theorem walk (c : Int) (a : Option Addr) (len cap : Nat) (F T : Nat → Int) (w : World) (hc0 : 0 ≤ c) (hc1 : c ≤ 255) (hlen : len ≤ maxLen) (hE : IsEdges w a len F T) (hlt : len ≤ 1024) :
    Calls Yba.prog 3 #[.int .u8 c, .slice a len cap] w fun e w' => e = .returned (.bool true) ∧ Below w.heap.size w w' := by
  unfold maxLen at hlen
  obtain ⟨n, hn⟩ : ∃ n : Nat, (n : Int) = c % 64 + 1 := ⟨(c % 64 + 1).toNat, by omega⟩
  have hn1 : 0 < n := by omega
  have hn2 : n ≤ 64 := by omega
  have hmk := make28 len hlt
  obtain ⟨es, hes⟩ : ∃ es, es = mk n len F T := ⟨_, rfl⟩
  have hfrl : ∀ i, i < len → fr es i < n ∧ F i % (n : Int) = (fr es i : Int) := by
    intro i hi
    rw [hes, mk_fr n len F T i hi]
    have h1 := Int.emod_nonneg (F i) (b := (n : Int)) (by omega)
    have h2 := Int.emod_lt_of_pos (F i) (b := (n : Int)) (by omega)
    omega
  have htgl : ∀ i, i < len → T i = tg es i := by
    intro i hi
    rw [hes, mk_tg n len F T i hi]
  have hesl : es.length = len := by rw [hes]; exact mk_len ..
  have HFR : Hid _ := hfrl
  have HTG : Hid _ := htgl
  have HEL : Hid _ := hesl
  have HN : Hid _ := hn
  clear hfrl htgl hesl hes
  have HE : Hid _ := hE
  clear hn hE
  go_enter Yba.func3, Yba.ntmps3
  go_upto_region 3 with fail
  go_cut [5] (fun v wr => v = .int .i64 (n : Int) ∧ w = wr)
  case first =>
    clear hmk hlen hlt hn1 hn2
    go_wp2
    go_meet
    exact ⟨by rw [show (n : Int) = _ from HN.out], rfl⟩
  case rest =>
    obtain ⟨rfl, rfl⟩ := hcut
    go_wp2
    go_loopg [7, 8, 28] len (fun k vi vr i wr => ∃ t : Nat, t + k = len ∧ i = .int .i64 t ∧ Fill w es len w.heap.size t wr)
    case atStart => exact ⟨0, by omega, rfl, Fill.start w es len⟩
    case round =>
      obtain ⟨t, ht, rfl, hb, hlb, G, hrow, hG⟩ := hrel
      have hsz := hb.size
      by_cases htl : t < len
      · obtain ⟨b, off, rfl, hbl, hcs⟩ : ∃ b off, a = some ⟨b, off, none⟩ ∧ b < w.heap.size ∧ ∀ i, i < len → w.cell? ⟨b, off + i * 2, none⟩ = some (.int .u64 (F i)) ∧ w.cell? ⟨b, off + i * 2 + 1, none⟩ = some (.int .i64 (T i)) ∧ 0 ≤ F i ∧ F i ≤ 18446744073709551615 := by
          rcases HE.out with h | h
          · omega
          · exact h
        obtain ⟨e0, e1, f0, f1⟩ := hcs t htl
        have hx0 : wr.cell? ⟨b, off + t * 2, none⟩ = some (.int .u64 (F t)) := (hb.cell (by exact hbl)).trans e0
        have hx1 : wr.cell? ⟨b, off + t * 2 + 1, none⟩ = some (.int .i64 (T t)) := (hb.cell (by exact hbl)).trans e1
        have hr0 : wr.cell? ⟨w.heap.size, t * 2, none⟩ = some (G (t * 2)) := hrow.cell (by omega)
        have hr1 : wr.cell? ⟨w.heap.size, t * 2 + 1, none⟩ = some (G (t * 2 + 1)) := hrow.cell (by omega)
        have hrf0 : wr.frozen? ⟨w.heap.size, t * 2, none⟩ = false := hrow.frozen _
        have hrf1 : wr.frozen? ⟨w.heap.size, t * 2 + 1, none⟩ = false := hrow.frozen _
        have hlr := hrow.lt
        have hne : ¬ b = w.heap.size := by omega
        have HB : Hid _ := hb
        have HR : Hid _ := hrow
        have HG : Hid _ := hG
        clear hb hrow hG hcs e0 e1 hmk
        generalize hx : F t = x at *
        have HX : Hid _ := hx
        clear hx
        obtain ⟨hul, hue⟩ := HFR.out t htl
        rw [show F t = x from HX.out] at hue
        generalize hu : fr es t = u at *
        have HU : Hid _ := hu
        clear hu
        go_wp2
        go_region
        all_goals try go_wp2
        go_roundg (gk - 1)
        case measure => omega
        case rel =>
          exact ⟨t + 1, by omega, by go_num, Fill.step HB.out (Nat.le_refl _) HR.out HG.out _ _ _ (by rw [show fr es t = u from HU.out]) (HTG.out t htl)⟩
      · have hel := HEL.out
        have hcc0 : ∀ i, i < len → wr.cell? ⟨w.heap.size, i * 2, none⟩ = some (.int .i64 (fr es i)) := fun i hi => (hrow.cell (by omega)).trans (by rw [(hG i (by omega)).1])
        have hcc1 : ∀ i, i < len → wr.cell? ⟨w.heap.size, i * 2 + 1, none⟩ = some (.int .i64 (tg es i)) := fun i hi => (hrow.cell (by omega)).trans (by rw [(hG i (by omega)).2])
        have HC : Hid ((∀ i, i < len → wr.cell? ⟨w.heap.size, i * 2, none⟩ = some (.int .i64 (fr es i))) ∧ ∀ i, i < len → wr.cell? ⟨w.heap.size, i * 2 + 1, none⟩ = some (.int .i64 (tg es i))) := ⟨hcc0, hcc1⟩
        have hlr := hrow.lt
        have HB : Hid (Below w.heap.size w wr) := hb
        clear hb hrow hG hel hcc0 hcc1 hmk
        go_wp2_with fail
        refine (newGraph_any es n w.heap.size len _ HEL.out hn1 hn2 hlt (fun i hi => (HFR.out i hi).1) hlr HC.out.1 HC.out.2).mono ?_
        rintro e w1 ⟨bs, bq, rfl, hsq, hbs, hbq, hb1, hrs, q, hrq, hq⟩
        have hel := HEL.out
        have hs0 : w1.cell? ⟨bs, 0, none⟩ = some (.int .i64 0) := (hrs.cell (by omega)).trans (by simp [cntLt_zero])
        have hsn : w1.cell? ⟨bs, n, none⟩ = some (.int .i64 len) := (hrs.cell (by omega)).trans (by rw [cntLt_all es n (fun i hi => (HFR.out i (by omega)).1), hel])
        have hsl := hrs.lt
        have hql := hrq.lt
        have HGR : Hid (Gr w es n len w.heap.size w1.heap.size bs bq q (w1.alloc (.cells #[.slice (some ⟨bs, 0, none⟩) (n + 1) (n + 1), .slice (some ⟨bq, 0, none⟩) len len] 31))) :=
          ⟨((show Below w.heap.size w wr from HB.out).trans (hb1.mono hsz)).alloc (by have := hb1.size; omega) _, heap_alloc_new _ _, hrs.alloc _, hrq.alloc _, .inr (by have := hb1.size; simp; omega),
            fun i hi => (World.cell?_alloc_lt _ _ _ (by have := hb1.size; simp; omega)).trans ((hb1.cell (by exact hlr)).trans (HC.out.1 i hi)),
            fun i hi => (World.cell?_alloc_lt _ _ _ (by have := hb1.size; simp; omega)).trans ((hb1.cell (by exact hlr)).trans (HC.out.2 i hi))⟩
        have HQ : Hid _ := hq
        clear hrs hrq hb1 hel hq HC HB hlr hsz hlb
        go_wp2
        go_loopg [11] n (fun k u wr => ∃ t : Nat, t + k = n ∧ u = .int .i64 t ∧ Gr w es n len w.heap.size w1.heap.size bs bq q wr)
        case atStart => exact ⟨0, by omega, rfl, HGR.out⟩
        case round =>
          clear HGR
          obtain ⟨t, ht, rfl, hGR⟩ := hrel
          by_cases htn : t < n
          · have hg0 : wr.cell? ⟨w1.heap.size, 0, none⟩ = some (.slice (some ⟨bs, 0, none⟩) (n + 1) (n + 1)) := (cell_of_heap hGR.hg).trans rfl
            have hst : wr.cell? ⟨bs, t, none⟩ = some (.int .i64 (cntLt es t)) := hGR.rs.cell (by omega)
            have hst1 : wr.cell? ⟨bs, t + 1, none⟩ = some (.int .i64 (cntLt es (t + 1))) := hGR.rs.cell (by omega)
            have hmn : ((cntLt es t : Nat) : Int) ≤ (cntLt es (t + 1) : Nat) := by have := cntLt_mono es (u := t) (v := t + 1) (by omega); omega
            have HG : Hid _ := hGR
            clear hGR hs0 hsn
            go_wp2
            go_quiet (fail)
            go_wp2
            go_roundg (gk - 1)
            case measure => omega
            case rel => exact ⟨t + 1, by omega, by go_num, (HG.out).drewN _⟩
          · have HG : Hid (Gr w es n len w.heap.size w1.heap.size bs bq q wr) := hGR
            clear hGR hs0 hsn hsl hql
            go_wp2
            go_loopg [12] n (fun k u wr => ∃ t : Nat, t + k = n ∧ u = .int .i64 t ∧ Gr w es n len w.heap.size w1.heap.size bs bq q wr)
            case atStart => exact ⟨0, by omega, rfl, HG.out⟩
            case round =>
              clear HG
              obtain ⟨t, ht, rfl, hGR⟩ := hrel
              by_cases htn : t < n
              · have hg0 : wr.cell? ⟨w1.heap.size, 0, none⟩ = some (.slice (some ⟨bs, 0, none⟩) (n + 1) (n + 1)) := (cell_of_heap hGR.hg).trans rfl
                have hst : wr.cell? ⟨bs, t, none⟩ = some (.int .i64 (cntLt es t)) := hGR.rs.cell (by omega)
                have HG : Hid (Gr w es n len w.heap.size w1.heap.size bs bq q wr) := hGR
                clear hGR
                obtain ⟨g1, hg1⟩ : ∃ g1, gk = g1 + 1 := ⟨gk - 1, by omega⟩
                have HG1 : Hid _ := hg1
                clear hg1
                go_wp2
                go_loopg [13, 107] len (fun k kk i wr => ∃ s : Nat, s + k = len ∧ i = .int .i64 s ∧ kk = .int .i64 ((cntLt es t + cntEq (es.take s) t : Nat) : Int) ∧ Gr w es n len w.heap.size w1.heap.size bs bq q wr)
                case atStart => exact ⟨0, by omega, rfl, by rw [cntEq_take_zero]; rfl, HG.out⟩
                case round =>
                  clear HG hg0 hst
                  obtain ⟨s, hs, rfl, rfl, hGR⟩ := hrel
                  have hg0 : wr.cell? ⟨w1.heap.size, 0, none⟩ = some (.slice (some ⟨bs, 0, none⟩) (n + 1) (n + 1)) := (cell_of_heap hGR.hg).trans rfl
                  have hg1 : wr.cell? ⟨w1.heap.size, 1, none⟩ = some (.slice (some ⟨bq, 0, none⟩) len len) := (cell_of_heap hGR.hg).trans rfl
                  have hst1 : wr.cell? ⟨bs, t + 1, none⟩ = some (.int .i64 (cntLt es (t + 1))) := hGR.rs.cell (by omega)
                  have hel := HEL.out
                  have hgl := lt_of_heap hGR.hg
                  have hsl := hGR.rs.lt
                  have hql := hGR.rq.lt
                  by_cases hsl2 : s < len
                  · have hx0 := hGR.e0 s hsl2
                    have hx1 := hGR.e1 s hsl2
                    have hbe : w.heap.size < wr.heap.size := by have := hGR.lbe; omega
                    by_cases hfu : fr es s = t
                    · have hpp : cntLt es t + cntEq (es.take s) t = pos es s := by unfold pos; rw [hfu]
                      have hp1 := pos_lt_next es s (by omega)
                      rw [hfu] at hp1 hx0
                      have hp2 := pos_lt es s (by omega)
                      have hqc : wr.cell? ⟨bq, pos es s, none⟩ = some (.int .i64 (tg es s)) := (hGR.rq.cell (by omega)).trans (by rw [HQ.out s hsl2])
                      have hnx : cntEq (es.take (s + 1)) t = cntEq (es.take s) t + 1 := by rw [cntEq_take_succ es s t (by omega), if_pos hfu]
                      have HNX : Hid _ := hnx
                      have HPP : Hid _ := hpp
                      have HG : Hid (Gr w es n len w.heap.size w1.heap.size bs bq q wr) := hGR
                      rw [hpp]
                      rw [hel] at hp2
                      clear hGR hfu hpp hnx hel
                      generalize hp : pos es s = p at *
                      have HP : Hid _ := hp
                      clear hp
                      go_wp2
                      go_quiet (fail)
                      go_wp2
                      go_roundg (gk - 1)
                      case measure => omega
                      case rel => exact ⟨s + 1, by omega, by go_num, by rw [show cntEq (es.take (s + 1)) t = _ from HNX.out, ← Nat.add_assoc, show cntLt es t + cntEq (es.take s) t = _ from HPP.out]; go_num, (HG.out.alloc _).drewN _⟩
                    · have hnx : cntEq (es.take (s + 1)) t = cntEq (es.take s) t := by rw [cntEq_take_succ es s t (by omega), if_neg hfu]; rfl
                      have HNX : Hid _ := hnx
                      have HG : Hid (Gr w es n len w.heap.size w1.heap.size bs bq q wr) := hGR
                      clear hGR hnx hel
                      generalize hp : cntLt es t + cntEq (es.take s) t = p at *
                      have HP : Hid _ := hp
                      clear hp
                      generalize hp : fr es s = u at *
                      clear hp
                      have hne : ((u : Int) == (t : Int)) = false := by simp; omega
                      go_wp2
                      go_roundg (gk - 1)
                      case measure => omega
                      case rel => exact ⟨s + 1, by omega, by go_num, by rw [show cntEq (es.take (s + 1)) t = _ from HNX.out, show cntLt es t + cntEq (es.take s) t = p from HP.out], (HG.out.alloc _)⟩
                  · have hse : s = len := by omega
                    have hfin : cntLt es t + cntEq (es.take s) t = cntLt es (t + 1) := by rw [hse, ← hel, cntEq_take_all, cntLt_succ]
                    have HG : Hid (Gr w es n len w.heap.size w1.heap.size bs bq q wr) := hGR
                    rw [hfin]
                    clear hGR hfin hel hse
                    generalize hp : cntLt es (t + 1) = p at *
                    clear hp
                    go_wp2
                    go_roundg g1
                    case measure => have := HG1.out; omega
                    case rel => exact ⟨t + 1, by have := HG1.out; omega, by go_num, HG.out⟩
              · have hb := hGR.below
                clear hGR
                have HB : Hid _ := hb
                clear hb
                go_wp2
                go_ret
                exact ⟨rfl, HB.out⟩

set_option maxRecDepth 100000 in
set_option maxHeartbeats 400000 in
theorem walk_long (c : Int) (a : Option Addr) (len cap : Nat) (w : World) (hlen : len ≤ maxLen) (hlt : 1024 < len) :
    Calls Yba.prog 3 #[.int .u8 c, .slice a len cap] w fun e w' => e = .returned (.bool true) ∧ Below w.heap.size w w' := by
  unfold maxLen at hlen
  have h1 : (1024 : Int) < (len : Int) := by omega
  go_enter Yba.func3, Yba.ntmps3
  go_wp2
  go_ret
  exact ⟨rfl, Below.refl _ _⟩

theorem walk_all (c : Int) (a : Option Addr) (len cap : Nat) (F T : Nat → Int) (w : World) (hc0 : 0 ≤ c) (hc1 : c ≤ 255) (hlen : len ≤ maxLen) (hE : IsEdges w a len F T) :
    Calls Yba.prog 3 #[.int .u8 c, .slice a len cap] w fun e w' => e = .returned (.bool true) ∧ Below w.heap.size w w' := by
  rcases Nat.lt_or_ge 1024 len with h | h
  · exact walk_long c a len cap w hlen h
  · exact walk c a len cap F T w hc0 hc1 hlen hE h

end Go.Proofs.Ybulkaqgy.Csr

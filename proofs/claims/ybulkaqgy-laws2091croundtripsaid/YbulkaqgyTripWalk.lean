/-
  The walk of record.LawS2091CRoundTrip (function 5).
-/
import Derived.Test.YbulkaqgyTripState
namespace Go.Proofs.Ybulkaqgy.Rec
open Go.RowKit Go.Deep
set_option linter.unusedVariables false

set_option maxHeartbeats 400000 in
theorem restart_nil (ba : Nat) (w : World) (ha4 : w.cell? ⟨ba, 4, none⟩ = some (.slice none 0 0)) :
    Calls Yba.prog 8 #[.pointer (some ⟨ba, 0, none⟩)] w fun e w' => e = .returned (.tuple #[]) ∧ w' = w := by
  go_enter Yba.func8, Yba.ntmps8
  go_wp2
  refine wp_loop_rounds 1 ?_
  rw [rounds_succ]
  go_wp2
  go_end0
  exact ⟨rfl, rfl⟩

theorem attempt_start {h bc n : Nat} {init id : Int} {W : Nat → Int} {M : Int → Option Gran} {B : Int → Nat} {tc1 tc2 : Nat → Bool} {vl : Nat → Int} {wr : World} (T : Tr h init M B tc1 tc2 vl wr)
    (hacc : ∀ i, i < n → wr.cell? ⟨bc, i * 3, none⟩ = some (.int .i64 (kO W i)) ∧ wr.cell? ⟨bc, i * 3 + 1, none⟩ = some (.bool true) ∧ wr.cell? ⟨bc, i * 3 + 2, none⟩ = some (.int .i64 0))
    (hbl : bc < wr.heap.size) (hbh : h + 4 ≤ bc) (hno : ¬ own h M B bc) :
    Tr h init M B tc1 tc2 vl ((wr.alloc (.cells #[.slice (some ⟨bc, 0, none⟩) n n, .nilFunc, .int .i64 0, .nilIface] 84)).alloc (.cells #[.pointer (some ⟨h, 0, none⟩), .int .i64 id, .pointer (some ⟨wr.heap.size, 0, none⟩), .slice none 0 0, .slice none 0 0, .slice none 0 0, .int .u64 0] 70)) ∧
    AtM h (wr.heap.size + 1) wr.heap.size bc n id W M B (.slice none 0 0) [] ((wr.alloc (.cells #[.slice (some ⟨bc, 0, none⟩) n n, .nilFunc, .int .i64 0, .nilIface] 84)).alloc (.cells #[.pointer (some ⟨h, 0, none⟩), .int .i64 id, .pointer (some ⟨wr.heap.size, 0, none⟩), .slice none 0 0, .slice none 0 0, .slice none 0 0, .int .u64 0] 70)) := by
  have hO : Only (fun _ => False) wr ((wr.alloc (.cells #[.slice (some ⟨bc, 0, none⟩) n n, .nilFunc, .int .i64 0, .nilIface] 84)).alloc (.cells #[.pointer (some ⟨h, 0, none⟩), .int .i64 id, .pointer (some ⟨wr.heap.size, 0, none⟩), .slice none 0 0, .slice none 0 0, .slice none 0 0, .int .u64 0] 70)) := ((Only.refl _ wr).alloc _).alloc _
  have l3 := T.r3.lt
  refine ⟨T.only hO (fun b hb => hb.elim), ?_, ?_, fun i hi => ⟨hO.cell (fun h => h) (hacc i hi).1, hO.cell (fun h => h) (hacc i hi).2.1, hO.cell (fun h => h) (hacc i hi).2.2⟩, World.ownsRow_nil _ _ _ _,
    (fun ho => by have := T.rc.lt ho; omega), (fun ho => by have := T.rc.lt ho; omega), hno, (fun b hb => by cases hb), by omega, by omega, by omega, by omega, hbh, (fun b hb => by cases hb), (by simp; omega)⟩
  · show (_ : World).heap[wr.heap.size + 1]? = _
    rw [heap_alloc_if, if_pos (by simp)]
  · rw [World.cell?_alloc_lt _ _ _ (by simp)]
    simp

/-- restart over an Attempt's own undo list -/
theorem restart_at {h ba bt bc n : Nat} {init id : Int} {W : Nat → Int} {M : Int → Option Gran} {B : Int → Nat} {tc1 tc2 : Nat → Bool} {vl : Nat → Int} {uv : Value} {us : List Gran} {w : World}
    (T : Tr h init M B tc1 tc2 vl w) (A : AtM h ba bt bc n id W M B uv us w) (hus : us.length ≤ 1024) (hk : ∀ i, i < us.length → K (us.getD i (0, 0, 0)).1) :
    Calls Yba.prog 8 #[.pointer (some ⟨ba, 0, none⟩)] w fun e w' => e = .returned (.tuple #[]) ∧ ∃ B', Tr h init (us.foldr (undo1 init) M) B' tc1 tc2 vl w' ∧ Only (fun b => h ≤ b) w w' := by
  rcases A.row.2 with ⟨rfl, h0⟩ | ⟨g, cap, cur, rfl, _, hg, hcap, _⟩
  · have hus0 : us = [] := List.eq_nil_of_length_eq_zero h0
    subst hus0
    refine (restart_nil ba w ((cell_of_heap A.hat).trans rfl)).mono ?_
    rintro e w' ⟨rfl, rfl⟩
    exact ⟨rfl, B, T, Only.refl _ _⟩
  · have hl := lt_of_heap hg
    have hcells := A.row.cells (g := g) rfl
    have e : ∀ j, (⟨g, 0, none⟩ : Addr).add j = ⟨g, j, none⟩ := fun j => by rw [Addr.add_lit, Nat.zero_add]
    have hU : Undo w g us := fun i hi => by
      obtain ⟨u0, u1, u2⟩ := usCells_get us i hi
      exact ⟨hk i hi, by rw [← e]; exact hcells _ _ u0, by rw [← e]; exact hcells _ _ u1, by rw [← e]; exact hcells _ _ u2⟩
    refine (restart_any ba g h us.length cap init us M B _ _ _ _ _ w T.rc rfl hcap (by omega) A.hat hU A.na (A.nu g rfl).1 (fun _ => hl)).mono ?_
    rintro e w' ⟨rfl, B', hR, hO, hs⟩
    have l3 := T.r3.lt
    have hno : ∀ b, h < b → b < h + 4 → ¬ own h M B b := fun b h1 h2 ho => by rcases T.far b ho with h3 | h3 <;> omega
    refine ⟨rfl, B', ⟨hR, hO.rowIs T.r1 (hno _ (by omega) (by omega)), hO.rowIs T.r2 (hno _ (by omega) (by omega)), hO.rowIs T.r3 (hno _ (by omega) (by omega)), ?_⟩, hO.wider (fun b hb => by rcases T.far b hb with h1 | h1 <;> omega)⟩
    intro b hb
    rcases hs b hb with h1 | h1
    · exact T.far b h1
    · right; omega

theorem foldr_undo2 (init : Int) (M0 : Int → Option Gran) (k : Int) : ∀ us : List Gran,
    ((∀ i, i < us.length → (us.getD i (0, 0, 0)).1 ≠ k) → us.foldr (undo1 init) M0 k = M0 k) ∧
    ∀ (f : Nat), f < us.length → (us.getD f (0, 0, 0)).1 = k → (∀ j, j < f → (us.getD j (0, 0, 0)).1 ≠ k) → ∃ c, us.foldr (undo1 init) M0 k = some ((us.getD f (0, 0, 0)).2.1, (us.getD f (0, 0, 0)).2.2, c)
  | [] => ⟨fun _ => rfl, fun f hf => by simp at hf⟩
  | u :: us => by
    obtain ⟨h1, h2⟩ := foldr_undo2 init M0 k us
    refine ⟨fun h => ?_, fun f hf he hj => ?_⟩
    · have h0 := h 0 (by simp)
      simp at h0
      rw [List.foldr_cons]
      unfold undo1 setM
      rw [if_neg (fun e => h0 e.symm)]
      exact h1 (fun i hi => by have := h (i + 1) (by simpa using hi); simpa using this)
    · rw [List.foldr_cons]
      unfold undo1 setM
      cases f with
      | zero =>
        simp at he
        rw [if_pos he.symm]
        exact ⟨_, rfl⟩
      | succ f =>
        have h0 := hj 0 (by omega)
        simp at h0
        rw [if_neg (fun e => h0 e.symm)]
        simp only [List.getD_cons_succ] at he ⊢
        exact h2 f (by simpa using hf) he (fun j hjf => by have := hj (j + 1) (by omega); simpa using this)

/-- what the Recorder holds at the end -/
theorem trip_end {init : Int} {M1 M : Int → Option Gran} {tc1 tc2 : Nat → Bool} {vl : Nat → Int} {us : List Gran} {t1 t2 : Nat} (h1 : J1 M1 tc1 vl t1) (h2 : J2 init M1 M tc2 us t2) (j : Nat) (hj : j < 16) :
    (tc1 j = true → ∃ c, us.foldr (undo1 init) M j = some (1, vl j, c)) ∧ (tc1 j = false → tc2 j = true → ∃ c, us.foldr (undo1 init) M j = some (0, init, c)) ∧ (tc1 j = false → tc2 j = false → us.foldr (undo1 init) M j = none) := by
  obtain ⟨f1, f2⟩ := foldr_undo2 init M (j : Int) us
  have hyes : tc2 j = true → ∃ c, us.foldr (undo1 init) M j = some ((inst init (M1 j)).1, (inst init (M1 j)).2.1, c) := fun ht => by
    obtain ⟨f, hf, he, hb⟩ := h2.yes j hj ht
    have := f2 f hf (by rw [he]) hb
    rw [he] at this
    exact this
  have hno : tc2 j = false → us.foldr (undo1 init) M j = M1 j := fun ht => by
    obtain ⟨e, hb⟩ := h2.no j hj ht
    rw [f1 hb, e]
  rcases h1 j hj with ⟨ht1, hM⟩ | ⟨ht1, c, hc1, _, hM⟩
  · refine ⟨fun h => (by rw [ht1] at h; cases h), fun _ ht2 => ?_, fun _ ht2 => by rw [hno ht2, hM]⟩
    obtain ⟨c', hc'⟩ := hyes ht2
    rw [hM] at hc'
    exact ⟨c', hc'⟩
  · refine ⟨fun _ => ?_, fun h => (by rw [ht1] at h; cases h), fun h => (by rw [ht1] at h; cases h)⟩
    cases ht2 : tc2 j with
    | true =>
      obtain ⟨c', hc'⟩ := hyes ht2
      rw [hM] at hc'
      have : (inst init (some (1, vl j, c))).2.1 = vl j := by
        show (if c = 0 then init else vl j) = vl j
        rw [if_neg (by omega)]
      rw [this] at hc'
      exact ⟨c', hc'⟩
    | false => exact ⟨c, by rw [hno ht2, hM]⟩

theorem one3 (a c : Int) (b : Bool) : ∀ u ∈ [Value.int .i64 a, .bool b, .int .i64 c], u.oneCell' = true := by
  intro u hu; simp at hu; rcases hu with rfl | rfl | rfl <;> rfl

set_option maxRecDepth 100000 in
set_option maxHeartbeats 4000000 in
theorem trip_walk (a0 : Option Addr) (n1 cap0 : Nat) (W1 : Nat → Int) (a1 : Option Addr) (l1 cap1 : Nat) (V1 : Nat → Int) (a2 : Option Addr) (n2 cap2 : Nat) (W2 : Nat → Int) (a3 : Option Addr) (l2 cap3 : Nat) (V2 : Nat → Int) (init : Int) (w : World)
    (h0 : Ints .u8 w a0 n1 W1) (hW1 : ∀ i, i < n1 → 0 ≤ W1 i ∧ W1 i ≤ 255) (h1 : Ints .i64 w a1 l1 V1) (h2 : Ints .u8 w a2 n2 W2) (hW2 : ∀ i, i < n2 → 0 ≤ W2 i ∧ W2 i ≤ 255) (h3 : Ints .i64 w a3 l2 V2)
    (hl1 : l1 ≤ maxLen) (hl2 : l2 ≤ maxLen) (hn1 : n1 ≤ 1024) (hn2 : n2 ≤ 1024) :
    Calls Yba.prog 5 #[.slice a0 n1 cap0, .slice a1 l1 cap1, .slice a2 n2 cap2, .slice a3 l2 cap3, .int .i64 init] w fun e w' => e = .returned (.bool true) ∧ Below w.heap.size w w' := by
  have hmk1 := make82 n1 hn1
  have H0 : Hid (Ints .u8 w a0 n1 W1 ∧ (∀ i, i < n1 → 0 ≤ W1 i ∧ W1 i ≤ 255)) := ⟨h0, hW1⟩
  have H1 : Hid (Ints .i64 w a1 l1 V1 ∧ l1 ≤ maxLen) := ⟨h1, hl1⟩
  have H2 : Hid (Ints .u8 w a2 n2 W2 ∧ (∀ i, i < n2 → 0 ≤ W2 i ∧ W2 i ≤ 255)) := ⟨h2, hW2⟩
  have H3 : Hid (Ints .i64 w a3 l2 V2 ∧ l2 ≤ maxLen) := ⟨h3, hl2⟩
  obtain ⟨i82, hi, hz0, hz1, hz2⟩ := info_parts info82
  have HI : Hid (Yba.prog.info? 82 = some i82 ∧ i82.size = 3) := ⟨hi, hz1⟩
  clear h0 hW1 h1 h2 hW2 h3 hl1 hl2 hi hz0 hz1 hz2
  go_enter Yba.func5, Yba.ntmps5
  go_wp2_with (first | (refine wpList_build57 _ rfl _ rfl _ rfl ?_))
  go_loopg [15, 16] n1 (fun k v i wr => ∃ t : Nat, t + k = n1 ∧ v = .slice (some ⟨w.heap.size + 1 + 1 + 1 + 1, 0, none⟩) t n1 ∧ i = .int .i64 t ∧ AccRow (tripStart w init) (w.heap.size + 1 + 1 + 1 + 1) n1 W1 t wr)
  case atStart => exact ⟨0, by omega, rfl, rfl, AccRow.start (tripStart w init) _ n1 (tripStart_size w init).symm hn1 W1⟩
  case round =>
    clear hmk1
    obtain ⟨t, ht, rfl, rfl, hA⟩ := hrel
    have hOw : Only (fun _ => False) w wr := (tripStart_only w init).trans hA.only (fun b hb => .inl hb)
    by_cases htn : t < n1
    · obtain ⟨b, off, rfl, hb, hc⟩ : ∃ b off, a0 = some ⟨b, off, none⟩ ∧ b < w.heap.size ∧ ∀ i, i < n1 → w.cell? ⟨b, off + i, none⟩ = some (.int .u8 (W1 i)) := by
        rcases (H0.out).1 with h | h
        · omega
        · exact h
      obtain ⟨g0, g1⟩ := (H0.out).2 t htn
      have hx : wr.cell? ⟨b, off + t, none⟩ = some (.int .u8 (W1 t)) := hOw.cell (fun h => h) (hc t htn)
      have hkk := kO_eq W1 t
      have HA : Hid (AccRow (tripStart w init) (w.heap.size + 1 + 1 + 1 + 1) n1 W1 t wr) := hA
      have hbw : b < wr.heap.size := World.block_lt_of_cell? _ _ hx
      clear hA hOw hc
      generalize hgx : W1 t = x at *
      clear hgx
      go_wp2_with (at_builtin; refine wpList_append_fits _ rfl _ _ 80 rfl 0 82 i82 3 Yba.underlying80 HI.out.1 HI.out.2 (w.heap.size + 1 + 1 + 1 + 1) t n1 (accL W1 t) rfl ((show AccRow (tripStart w init) (w.heap.size + 1 + 1 + 1 + 1) n1 W1 t wr from HA.out).row.alloc _) ⟨wr.heap.size, 0, none⟩ 1 1 [.int .i64 (kO W1 t), .bool true, .int .i64 0] rfl rfl (three_new _ _ _ _ _) (one3 _ _ _) htn ?_)
      intro w2 hown hgrow
      have HA2 : Hid (AccRow (tripStart w init) (w.heap.size + 1 + 1 + 1 + 1) n1 W1 (t + 1) w2) := (show AccRow (tripStart w init) (w.heap.size + 1 + 1 + 1 + 1) n1 W1 t wr from HA.out).step hown hgrow
      clear hown hgrow
      go_wp2
      go_roundg (gk - 1)
      case measure => omega
      case rel => exact ⟨t + 1, by omega, rfl, by go_num, HA2.out⟩
    · obtain rfl : t = n1 := by omega
      obtain ⟨w0, hw0⟩ : ∃ w0 : World, w0 = wr := ⟨_, rfl⟩
      subst hw0
      have HA : Hid (AccRow (tripStart w init) (w.heap.size + 1 + 1 + 1 + 1) t W1 t w0) := hA
      have HOW : Hid (Only (fun _ => False) w w0) := hOw
      have hT0 := (tripStart_tr w init).only hA.only (fun b hb => hb.elim)
      have hlb := hA.lb
      rw [tripStart_size] at hlb
      have hbl : w.heap.size + 1 + 1 + 1 + 1 < w0.heap.size := (hA.row.lt _ rfl).2
      have hno : ¬ own w.heap.size (fun _ => none) (fun _ => 0) (w.heap.size + 1 + 1 + 1 + 1) := fun ho => by
        rcases ho with h | ⟨k, _, h, _⟩
        · omega
        · exact h rfl
      obtain ⟨hT1, hA1⟩ := attempt_start (id := 1) hT0 (fun i hi => hA.cells i hi) hbl (by omega) hno
      have HT1 : Hid _ := hT1
      have HA1 : Hid _ := hA1
      have hOw2 : Only (fun b => w.heap.size ≤ b) w ((w0.alloc (.cells #[.slice (some ⟨w.heap.size + 1 + 1 + 1 + 1, 0, none⟩) t t, .nilFunc, .int .i64 0, .nilIface] 84)).alloc (.cells #[.pointer (some ⟨w.heap.size, 0, none⟩), .int .i64 1, .pointer (some ⟨w0.heap.size, 0, none⟩), .slice none 0 0, .slice none 0 0, .slice none 0 0, .int .u64 0] 70)) :=
        ((hOw.wider (fun b hb => hb.elim)).alloc _).alloc _
      have HOW2 : Hid _ := hOw2
      have hwrs : w.heap.size + 4 < w0.heap.size := by omega
      clear hA hOw H0 hT0 hlb hbl hno hT1 hA1 hOw2 HA HOW
      go_wp2
      go_loopg [18] t (fun k i wl => ∃ s : Nat, s + k = t ∧ i = .int .i64 s ∧ ∃ (M : Int → Option Gran) (B : Int → Nat) (tc : Nat → Bool) (vl : Nat → Int) (uv : Value) (us : List Gran), Tr w.heap.size init M B tc (fun _ => false) vl wl ∧
          AtM w.heap.size (w0.heap.size + 1) w0.heap.size (w.heap.size + 1 + 1 + 1 + 1) t 1 W1 M B uv us wl ∧ us.length = s ∧ J1 M tc vl s ∧ Only (fun b => w.heap.size ≤ b) w wl)
      case atStart => exact ⟨0, by omega, rfl, _, _, _, _, _, _, HT1.out, HA1.out, rfl, fun j hj => .inl ⟨rfl, rfl⟩, HOW2.out⟩
      case round =>
        clear HT1 HA1 HOW2
        obtain ⟨s, hs, rfl, M, B, tc, vl, uv, us, hT, hA, husl, hJ, hO⟩ := hrel
        by_cases hst : s < t
        · have hkl := kO_lt W1 s
          have hins := hJ.ins init (kO W1 s) hkl
          have HC1 : Hid (Ints .i64 wr a1 l1 V1) := (H1.out).1.below (hO.below (Nat.le_refl _) (fun b hb => hb))
          have HT : Hid _ := hT
          have HA : Hid _ := hA
          have HJ : Hid (J1 M tc vl s) := hJ
          have HO : Hid (Only (fun b => w.heap.size ≤ b) w wr) := hO
          have HINS : Hid _ := hins
          have HUS : Hid _ := husl
          clear hT hA hJ hO hins husl
          go_wp2_with fail
          refine (cat_any a1 l1 cap1 s V1 _ (by exact HC1.out) (H1.out).2 (by omega)).mono ?_
          rintro e wx ⟨rfl, rfl⟩
          go_wp2_with fail
          refine (access_step (v := at0 V1 l1 s) HT.out HA.out hst hn1 (by have := HUS.out; omega) (by have := HINS.out; omega)).mono ?_
          rintro e w2 ⟨rfl, B2, uv2, hT2, hA2, hO2, hs2⟩
          have hc0 := (hA2.acc s hst).1
          generalize hgk : kO W1 s = kk at *
          have HGK : Hid _ := hgk
          clear hgk
          have hr1 : w2.cell? ⟨w.heap.size + 1, kk, none⟩ = some (.bool (tc kk)) := hT2.r1.cell hkl
          have hr3 : w2.cell? ⟨w.heap.size + 1 + 1 + 1, kk, none⟩ = some (.int .i64 (vl kk)) := hT2.r3.cell hkl
          have hf1 : w2.frozen? ⟨w.heap.size + 1, kk, none⟩ = false := hT2.r1.frozen _
          have hf3 : w2.frozen? ⟨w.heap.size + 1 + 1 + 1, kk, none⟩ = false := hT2.r3.frozen _
          have hki : (kk : Int) < 16 := by omega
          have HT2 : Hid _ := hT2
          have HA2 : Hid _ := hA2
          have HO2 : Hid _ := hO2
          clear hT2 hA2 hO2 hs2 HT HA
          go_wp2
          go_roundg (gk - 1)
          case measure => omega
          case rel =>
            have hO3 := mark1_only w.heap.size kk (at0 V1 l1 s) w2
            refine ⟨s + 1, by omega, by go_num, _, B2, _, _, uv2, _, (HT2.out).mark1 kk (at0 V1 l1 s), (HA2.out).marks hO3 (fun b hb => by omega), by simp; exact HUS.out, J1.step (HJ.out) init kk hkl (at0 V1 l1 s), ?_⟩
            exact (Only.trans (HO.out) (HO2.out) (fun b hb => .inl hb)).trans hO3 (fun b hb => .inl (by omega))
        · obtain rfl : s = t := by omega
          obtain ⟨w3, hw3⟩ : ∃ w3 : World, w3 = wr := ⟨_, rfl⟩
          subst hw3
          have HT : Hid (Tr w.heap.size init M B tc (fun _ => false) vl w3) := hT
          have HJ : Hid (J1 M tc vl s) := hJ
          have HO : Hid (Only (fun b => w.heap.size ≤ b) w w3) := hO
          have hmk2 := make82 n2 hn2
          have hw3s : w.heap.size + 1 + 1 + 1 < w3.heap.size := hT.r3.lt
          clear hT hA hJ hO husl H1 hwrs
          go_wp2
          go_loopg [20, 21] n2 (fun k v i wl => ∃ q : Nat, q + k = n2 ∧ v = .slice (some ⟨w3.heap.size, 0, none⟩) q n2 ∧ i = .int .i64 q ∧ AccRow w3 w3.heap.size n2 W2 q wl)
          case atStart => exact ⟨0, by omega, rfl, rfl, AccRow.start w3 _ n2 rfl hn2 W2⟩
          case round =>
            clear hmk2
            obtain ⟨q, hq, rfl, rfl, hA⟩ := hrel
            have hOw : Only (fun b => w.heap.size ≤ b) w wr := (show Only (fun b => w.heap.size ≤ b) w w3 from HO.out).trans hA.only (fun b hb => hb.elim)
            by_cases hqn : q < n2
            · obtain ⟨b, off, rfl, hb, hc⟩ : ∃ b off, a2 = some ⟨b, off, none⟩ ∧ b < w.heap.size ∧ ∀ i, i < n2 → w.cell? ⟨b, off + i, none⟩ = some (.int .u8 (W2 i)) := by
                rcases (H2.out).1 with h | h
                · omega
                · exact h
              obtain ⟨g0, g1⟩ := (H2.out).2 q hqn
              have hx : wr.cell? ⟨b, off + q, none⟩ = some (.int .u8 (W2 q)) := hOw.cell (by omega) (hc q hqn)
              have hkk := kO_eq W2 q
              have HA : Hid (AccRow w3 w3.heap.size n2 W2 q wr) := hA
              have hbw : b < wr.heap.size := World.block_lt_of_cell? _ _ hx
              clear hA hOw hc
              generalize hgx : W2 q = x at *
              clear hgx
              go_wp2_with (at_builtin; refine wpList_append_fits _ rfl _ _ 80 rfl 0 82 i82 3 Yba.underlying80 HI.out.1 HI.out.2 w3.heap.size q n2 (accL W2 q) rfl ((show AccRow w3 w3.heap.size n2 W2 q wr from HA.out).row.alloc _) ⟨wr.heap.size, 0, none⟩ 1 1 [.int .i64 (kO W2 q), .bool true, .int .i64 0] rfl rfl (three_new _ _ _ _ _) (one3 _ _ _) hqn ?_)
              intro w2 hown hgrow
              have HA2 : Hid (AccRow w3 w3.heap.size n2 W2 (q + 1) w2) := (show AccRow w3 w3.heap.size n2 W2 q wr from HA.out).step hown hgrow
              clear hown hgrow
              go_wp2
              go_roundg (gk - 1)
              case measure => omega
              case rel => exact ⟨q + 1, by omega, rfl, by go_num, HA2.out⟩
            · obtain rfl : q = n2 := by omega
              obtain ⟨w4, hw4⟩ : ∃ w4 : World, w4 = wr := ⟨_, rfl⟩
              subst hw4
              have hT4 := (show Tr w.heap.size init M B tc (fun _ => false) vl w3 from HT.out).only hA.only (fun b hb => hb.elim)
              have hbl : w3.heap.size < w4.heap.size := (hA.row.lt _ rfl).2
              have hno : ¬ own w.heap.size M B w3.heap.size := fun ho => by have := (show Tr w.heap.size init M B tc (fun _ => false) vl w3 from HT.out).rc.lt ho; omega
              obtain ⟨hT5, hA5⟩ := attempt_start (id := 2) hT4 (fun i hi => hA.cells i hi) hbl (by omega) hno
              have HT5 : Hid _ := hT5
              have HA5 : Hid _ := hA5
              have hOw5 : Only (fun b => w.heap.size ≤ b) w ((w4.alloc (.cells #[.slice (some ⟨w3.heap.size, 0, none⟩) q q, .nilFunc, .int .i64 0, .nilIface] 84)).alloc (.cells #[.pointer (some ⟨w.heap.size, 0, none⟩), .int .i64 2, .pointer (some ⟨w4.heap.size, 0, none⟩), .slice none 0 0, .slice none 0 0, .slice none 0 0, .int .u64 0] 70)) := (hOw.alloc _).alloc _
              have HOW5 : Hid _ := hOw5
              clear hA hOw H2 hT4 hno hT5 hA5 hOw5 HT HO
              go_wp2
              go_loopg [23] q (fun k i wl => ∃ p : Nat, p + k = q ∧ i = .int .i64 p ∧ ∃ (M2 : Int → Option Gran) (B2 : Int → Nat) (tc2 : Nat → Bool) (uv : Value) (us : List Gran), Tr w.heap.size init M2 B2 tc tc2 vl wl ∧
                  AtM w.heap.size (w4.heap.size + 1) w4.heap.size w3.heap.size q 2 W2 M2 B2 uv us wl ∧ J2 init M M2 tc2 us p ∧ Only (fun b => w.heap.size ≤ b) w wl)
              case atStart => exact ⟨0, by omega, rfl, _, _, _, _, _, HT5.out, HA5.out, J2.start init M (fun j hj => by have := (show J1 M tc vl s from HJ.out).ins init j hj; omega), HOW5.out⟩
              case round =>
                clear HT5 HA5 HOW5
                obtain ⟨p, hp, rfl, M2, B2, tc2, uv, us, hT, hA, hJ2, hO⟩ := hrel
                by_cases hpq : p < q
                · have hkl := kO_lt W2 p
                  have hins := hJ2.ins (kO W2 p) hkl
                  have HC3 : Hid (Ints .i64 wr a3 l2 V2) := (H3.out).1.below (hO.below (Nat.le_refl _) (fun b hb => hb))
                  have HT : Hid _ := hT
                  have HA : Hid _ := hA
                  have HJ2 : Hid _ := hJ2
                  have HO : Hid (Only (fun b => w.heap.size ≤ b) w wr) := hO
                  have HINS : Hid _ := hins
                  have HUS : Hid (us.length = p) := hJ2.len
                  clear hT hA hJ2 hO hins
                  go_wp2_with fail
                  refine (cat_any a3 l2 cap3 p V2 _ (by exact HC3.out) (H3.out).2 (by omega)).mono ?_
                  rintro e wx ⟨rfl, rfl⟩
                  go_wp2_with fail
                  refine (access_step (v := at0 V2 l2 p) HT.out HA.out hpq hn2 (by have := HUS.out; omega) (by have := HINS.out; omega)).mono ?_
                  rintro e w2 ⟨rfl, B3, uv3, hT2, hA2, hO2, hs2⟩
                  have hc0 := (hA2.acc p hpq).1
                  generalize hgk : kO W2 p = kk at *
                  clear hgk
                  have hr2 : w2.cell? ⟨w.heap.size + 1 + 1, kk, none⟩ = some (.bool (tc2 kk)) := hT2.r2.cell hkl
                  have hf2 : w2.frozen? ⟨w.heap.size + 1 + 1, kk, none⟩ = false := hT2.r2.frozen _
                  have hki : (kk : Int) < 16 := by omega
                  have HT2 : Hid _ := hT2
                  have HA2 : Hid _ := hA2
                  have HO2 : Hid _ := hO2
                  clear hT2 hA2 hO2 hs2 HT HA
                  go_wp2
                  go_roundg (gk - 1)
                  case measure => omega
                  case rel =>
                    have hO3 := mark2_only w.heap.size kk w2
                    refine ⟨p + 1, by omega, by go_num, _, B3, _, uv3, _, (HT2.out).mark2 kk, (HA2.out).marks hO3 (fun b hb => by omega), (HJ2.out).step kk hkl (at0 V2 l2 p), ?_⟩
                    exact (Only.trans (HO.out) (HO2.out) (fun b hb => .inl hb)).trans hO3 (fun b hb => .inl (by omega))
                · obtain rfl : p = q := by omega
                  have hkeys : ∀ i, i < us.length → K (us.getD i (0, 0, 0)).1 := fun i hi => by
                    obtain ⟨j, hj, e⟩ := hJ2.keys i hi
                    rw [e]; exact K_of_lt hj
                  have HT : Hid _ := hT
                  have HA : Hid _ := hA
                  have HKEYS : Hid _ := hkeys
                  have HUS : Hid (us.length = p) := hJ2.len
                  have HO : Hid (Only (fun b => w.heap.size ≤ b) w wr) := hO
                  have HEND : Hid (∀ j : Nat, j < 16 → (tc j = true → ∃ c, us.foldr (undo1 init) M2 j = some (1, vl j, c)) ∧ (tc j = false → tc2 j = true → ∃ c, us.foldr (undo1 init) M2 j = some (0, init, c)) ∧ (tc j = false → tc2 j = false → us.foldr (undo1 init) M2 j = none)) :=
                    fun j hj => trip_end (show J1 M tc vl s from HJ.out) hJ2 j hj
                  clear hT hA hJ2 hO hkeys HJ H3
                  go_wp2_with fail
                  refine (restart_at HT.out HA.out (by have := HUS.out; omega) HKEYS.out).mono ?_
                  rintro e w5 ⟨rfl, B5, hT5, hO5⟩
                  have HO5 : Hid (Only (fun b => w.heap.size ≤ b) w w5) := Only.trans (HO.out) hO5 (fun b hb => .inl hb)
                  obtain ⟨M5, hM5⟩ : ∃ M5, M5 = us.foldr (undo1 init) M2 := ⟨_, rfl⟩
                  rw [← hM5] at hT5 HEND
                  have HT5 : Hid (Tr w.heap.size init M5 B5 tc tc2 vl w5) := hT5
                  have hw5s : w.heap.size + 1 + 1 + 1 < w5.heap.size := hT5.r3.lt
                  clear hM5 hT5 hO5 HT HA HKEYS HUS HO
                  go_wp2
                  go_loopg [24] 16 (fun k v wl => ∃ j : Nat, j + k = 16 ∧ v = .int .i64 j ∧ Only (fun _ => False) w5 wl)
                  case atStart => exact ⟨0, by omega, rfl, Only.refl _ _⟩
                  case round =>
                    obtain ⟨j, hj, rfl, hO6⟩ := hrel
                    by_cases hj16 : j < 16
                    · obtain ⟨e1, e2, e3⟩ := (HEND.out) j hj16
                      have hT6 := (show Tr w.heap.size init M5 B5 tc tc2 vl w5 from HT5.out).only hO6 (fun b hb => hb.elim)
                      have hr1 : wr.cell? ⟨w.heap.size + 1, j, none⟩ = some (.bool (tc j)) := hT6.r1.cell hj16
                      have hr2 : wr.cell? ⟨w.heap.size + 1 + 1, j, none⟩ = some (.bool (tc2 j)) := hT6.r2.cell hj16
                      have hr3 : wr.cell? ⟨w.heap.size + 1 + 1 + 1, j, none⟩ = some (.int .i64 (vl j)) := hT6.r3.cell hj16
                      have HR6 : Hid (Rec w.heap.size init M5 B5 wr) := hT6.rc
                      have HO6 : Hid (Only (fun _ => False) w5 wr) := hO6
                      have hji : (j : Int) < 16 := by omega
                      have HK : Hid (K (j : Int)) := K_of_lt hj16
                      have HE : Hid ((tc j = true → ∃ c, M5 j = some (1, vl j, c)) ∧ (tc j = false → tc2 j = true → ∃ c, M5 j = some (0, init, c)) ∧ (tc j = false → tc2 j = false → M5 j = none)) := ⟨e1, e2, e3⟩
                      clear hT6 hO6 e1 e2 e3
                      generalize hgv : vl j = vj at *
                      clear hgv
                      cases ht1 : tc j with
                      | true =>
                        obtain ⟨c, hMj⟩ := (HE.out).1 ht1
                        rw [ht1] at hr1
                        have HMJ : Hid _ := hMj
                        clear hMj ht1 HE
                        go_wp2_with fail
                        refine (shard_any (j : Int) HK.out w.heap.size 5 _).mono ?_
                        rintro e w6 ⟨rfl, n6, rfl⟩
                        go_wp2_with fail
                        refine (get_any (j : Int) HK.out w.heap.size init M5 B5 _ ((show Rec w.heap.size init M5 B5 wr from HR6.out).drewN n6)).mono ?_
                        rintro e w7 ⟨rfl, hO7⟩
                        rw [show M5 j = _ from HMJ.out]
                        simp only [granV, Option.isSome_some]
                        have q1 := hO7.cell (fun h => h) (show (wr.drewN n6).cell? _ = _ from hr1)
                        have q2 := hO7.cell (fun h => h) (show (wr.drewN n6).cell? _ = _ from hr2)
                        have q3 := hO7.cell (fun h => h) (show (wr.drewN n6).cell? _ = _ from hr3)
                        have l7 : w.heap.size + 1 + 1 + 1 < w7.heap.size := World.block_lt_of_cell? _ _ q3
                        have l7a : w.heap.size + 1 < w7.heap.size := by omega
                        have l7b : w.heap.size + 1 + 1 < w7.heap.size := by omega
                        have HO7 : Hid (Only (fun _ => False) w5 w7) := ((show Only (fun _ => False) w5 wr from HO6.out).drewN n6).trans hO7 (fun b hb => .inl hb)
                        clear hO7 hr1 hr2 hr3
                        go_wp2
                        go_quiet (fail)
                        go_wp2
                        go_roundg (gk - 1)
                        case measure => omega
                        case rel => exact ⟨j + 1, by omega, by go_num, ((show Only (fun _ => False) w5 w7 from HO7.out).alloc _).drewN _⟩
                      | false =>
                        cases ht2 : tc2 j with
                        | true =>
                          obtain ⟨c, hMj⟩ := (HE.out).2.1 ht1 ht2
                          rw [ht1] at hr1
                          rw [ht2] at hr2
                          have HMJ : Hid _ := hMj
                          clear hMj ht1 ht2 HE
                          go_wp2_with fail
                          refine (shard_any (j : Int) HK.out w.heap.size 5 _).mono ?_
                          rintro e w6 ⟨rfl, n6, rfl⟩
                          go_wp2_with fail
                          refine (get_any (j : Int) HK.out w.heap.size init M5 B5 _ ((show Rec w.heap.size init M5 B5 wr from HR6.out).drewN n6)).mono ?_
                          rintro e w7 ⟨rfl, hO7⟩
                          rw [show M5 j = _ from HMJ.out]
                          simp only [granV, Option.isSome_some]
                          have q1 := hO7.cell (fun h => h) (show (wr.drewN n6).cell? _ = _ from hr1)
                          have q2 := hO7.cell (fun h => h) (show (wr.drewN n6).cell? _ = _ from hr2)
                          have l7b : w.heap.size + 1 + 1 < w7.heap.size := World.block_lt_of_cell? _ _ q2
                          have l7a : w.heap.size + 1 < w7.heap.size := by omega
                          have HO7 : Hid (Only (fun _ => False) w5 w7) := ((show Only (fun _ => False) w5 wr from HO6.out).drewN n6).trans hO7 (fun b hb => .inl hb)
                          clear hO7 hr1 hr2 hr3
                          go_wp2
                          go_roundg (gk - 1)
                          case measure => omega
                          case rel => exact ⟨j + 1, by omega, by go_num, ((show Only (fun _ => False) w5 w7 from HO7.out).alloc _)⟩
                        | false =>
                          have hMj := (HE.out).2.2 ht1 ht2
                          rw [ht1] at hr1
                          rw [ht2] at hr2
                          have HMJ : Hid _ := hMj
                          clear hMj ht1 ht2 HE
                          go_wp2_with fail
                          refine (shard_any (j : Int) HK.out w.heap.size 5 _).mono ?_
                          rintro e w6 ⟨rfl, n6, rfl⟩
                          go_wp2_with fail
                          refine (get_any (j : Int) HK.out w.heap.size init M5 B5 _ ((show Rec w.heap.size init M5 B5 wr from HR6.out).drewN n6)).mono ?_
                          rintro e w7 ⟨rfl, hO7⟩
                          rw [show M5 j = _ from HMJ.out]
                          simp only [granV, Option.isSome_none]
                          have q1 := hO7.cell (fun h => h) (show (wr.drewN n6).cell? _ = _ from hr1)
                          have q2 := hO7.cell (fun h => h) (show (wr.drewN n6).cell? _ = _ from hr2)
                          have l7b : w.heap.size + 1 + 1 < w7.heap.size := World.block_lt_of_cell? _ _ q2
                          have l7a : w.heap.size + 1 < w7.heap.size := by omega
                          have HO7 : Hid (Only (fun _ => False) w5 w7) := ((show Only (fun _ => False) w5 wr from HO6.out).drewN n6).trans hO7 (fun b hb => .inl hb)
                          clear hO7 hr1 hr2 hr3
                          go_wp2
                          go_roundg (gk - 1)
                          case measure => omega
                          case rel => exact ⟨j + 1, by omega, by go_num, ((show Only (fun _ => False) w5 w7 from HO7.out).alloc _)⟩
                    · have HF : Hid (Below w.heap.size w wr) := (Only.trans (HO5.out) hO6 (fun b hb => hb.elim)).below (Nat.le_refl _) (fun b hb => hb)
                      clear hO6
                      go_wp2
                      go_ret
                      exact ⟨rfl, HF.out⟩
end Go.Proofs.Ybulkaqgy.Rec

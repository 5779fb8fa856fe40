/-
  mergeNames.
-/
import Derived.Test.YbulkaqlgHeap
import Derived.BigQuiet
import Derived.BigRegion
import Derived.Deep.QuietTactic
import Derived.Deep.RegionLaw
import Derived.Deep.DeepCutAuto
namespace Go.Proofs.Ybulkaqlg
open Go.RowKit Go.Shelf Go.Lib
set_option linter.unusedVariables false
set_option linter.unusedSimpArgs false

theorem drop_cons_next {α : Type} {l : List α} {i : Nat} {x : α} {r : List α} (h : l.drop i = x :: r) : l.drop (i + 1) = r := by
  have : l.drop (i + 1) = (l.drop i).drop 1 := by rw [List.drop_drop]
  rw [this, h]; rfl

theorem splice_take {α : Type} (D A : List α) (o : Nat) (h : o ≤ D.length) : (splice D o A).take (o + A.length) = D.take o ++ A := by
  unfold splice
  rw [← List.append_assoc, List.take_append_of_le_length (by simp; omega), List.take_of_length_le (by simp; omega)]
theorem splice_take_low {α : Type} (D A : List α) (o p : Nat) (h : o ≤ D.length) (hp : p ≤ o) : (splice D o A).take p = D.take p := by
  unfold splice
  rw [List.take_append_of_le_length (by simp; omega), List.take_take, Nat.min_eq_left hp]
theorem splice_drop {α : Type} (D A : List α) (o p : Nat) (h : o ≤ D.length) (hp : o + A.length ≤ p) : (splice D o A).drop p = D.drop p := by
  unfold splice
  rw [← List.append_assoc, List.drop_append, List.drop_eq_nil_of_le (by simp; omega), List.nil_append, List.drop_drop]
  congr 1
  simp
  omega

set_option maxRecDepth 100000 in
set_option maxHeartbeats 4000000 in
theorem mergeNames (b n c : Nat) (zs G : List Str) (ag : Option Addr) (cg bc m : Nat) (C : List Str) (w : World)
    (hz : Row w b zs) (hzc : zs.length = c) (hnc : n ≤ c) (hc : c ≤ 4096) (hX : Srt (zs.take n))
    (hGl : G.length ≤ 4096) (hgl : G.length ≤ cg) (hcg : cg ≤ 9223372036854775807) (hg : 0 < G.length → ∃ bg, ag = some ⟨bg, 0, none⟩ ∧ bg < b ∧ Reads w bg 0 G) (hGX : List.Sublist G (zs.take n))
    (hC : Row w bc C) (hm : C.length = m) (hm2 : m ≤ 4096) (hbc : bc < b) (hCs : Srt C) :
    Calls Yba.prog 7 #[.slice (some ⟨b, 0, none⟩) n c, .slice ag G.length cg, .slice (some ⟨bc, 0, none⟩) m m] w fun e w' =>
      ∃ b' c' D K, e = .returned (.slice (some ⟨b', 0, none⟩) (K.length + m) c') ∧ Row w' b' D ∧ K.length + m ≤ c' ∧ D.length = c' ∧ c' ≤ 9223372036854775807 ∧ D.take (K.length + m) = (K ++ C).mergeSort (fun x y => decide (x ≤ y)) ∧
        (K ++ G).Perm (zs.take n) ∧ Srt K ∧ (K.length + m ≤ c → b' = b) ∧ b ≤ b' ∧ Below b w w' := by
  have hzlt := hz.lt
  go_enter Yba.func7, Yba.ntmps7
  go_upto_if 18 with fail
  go_cut [0] (fun s0 wr => ∃ (K D : List Str), s0 = .slice (some ⟨b, 0, none⟩) K.length c ∧ Row wr b D ∧ D.length = c ∧ D.take K.length = K ∧ (K ++ G).Perm (zs.take n) ∧ Srt K ∧ Below b w wr)
  case first =>
    rcases Nat.eq_zero_or_pos G.length with hG0 | hGp
    · obtain rfl : G = [] := List.eq_nil_of_length_eq_zero hG0
      have hl : (zs.take n).length = n := by simp; omega
      clear hg hGX
      go_wp2_with fail
      go_meet
      case rel => exact ⟨zs.take n, zs, by rw [hl], hz, hzc, by rw [hl], by simp, hX, Below.refl _ _⟩
    · obtain ⟨bg, rfl, hbg, hGr⟩ := hg hGp
      have HX : Hid (Srt (zs.take n)) := hX
      have HG : Hid (∀ w', Below b w w' → Reads w' bg 0 G) := fun w' h' => hGr.below h' hbg
      have HZ : Hid (Row w b zs) := hz
      have HS : Hid (List.Sublist G (zs.take n)) := hGX
      clear hX hGr hz hGX hC hg
      simp only [hGp, decide_true]
      go_wp2_with fail
      go_loopg [7, 8, 10, 11, 12, 21] G.length (fun g s7 s8 s10 s11 s12 s21 wr => ∃ (kept next jg : Nat) (D : List Str), G.length - jg = g ∧ jg ≤ G.length ∧ s7 = .int .i64 (kept : Int) ∧ s8 = .int .i64 (next : Int) ∧ s21 = .int .i64 (jg : Int) ∧ Row wr b D ∧ D.length = c ∧ kept + jg = next ∧ next ≤ n ∧ D.drop next = zs.drop next ∧ Out (zs.take n) (D.take kept) ((zs.take n).drop next) (G.take jg) (G.drop jg) ∧ Below b w wr)
      case atStart => exact ⟨0, 0, 0, zs, rfl, Nat.zero_le _, rfl, rfl, rfl, HZ.out, hzc, rfl, Nat.zero_le _, rfl, by simpa using Out.start HS.out, Below.refl _ _⟩
      case round =>
        obtain ⟨kept, next, jg, D, rfl, hjg, rfl, rfl, rfl, hD, hDc, hkn, hnn, hDd, hO, hbr⟩ := hrel
        have HDd : Hid (D.drop next = zs.drop next) := hDd
        have HR : Hid (Row wr b D) := hD
        have HB : Hid (Below b w wr) := hbr
        have hYe : (zs.take n).drop next = (D.drop next).take (n - next) := by rw [hDd, List.drop_take]
        obtain ⟨Y, hY⟩ : ∃ Y, Y = (zs.take n).drop next := ⟨_, rfl⟩
        have hYl : Y.length = n - next := by rw [hY]; simp; omega
        have HYr : Hid (Reads wr b next Y) := by show Reads wr b next Y; rw [hY, hYe]; exact hD.reads next _
        have HY : Hid (Y = (zs.take n).drop next) := hY
        have hYs : Srt Y := by rw [hY]; exact (show Srt (zs.take n) from HX.out).sublist (List.drop_sublist _ _)
        rw [← hY] at hO
        obtain ⟨y, hy⟩ : ∃ y, Y.length = y := ⟨_, rfl⟩
        have hny : n - next = y := by omega
        have hnk : kept ≤ n := by omega
        clear hD hbr hDd hYe hY hYl
        by_cases hlt : jg < G.length
        · have hcell : wr.cell? ⟨bg, jg, none⟩ = some (.string ⟨G[jg].toArray⟩) := by have := HG.out wr HB.out jg hlt; simpa using this
          obtain ⟨s, hs⟩ : ∃ s, s = G[jg] := ⟨_, rfl⟩
          have hGd : G.drop jg = s :: G.drop (jg + 1) := by rw [hs]; exact List.drop_eq_getElem_cons hlt
          rw [hGd] at hO
          obtain ⟨hcl, hO2⟩ := hO.step HX.out
          rw [← hs] at hcell
          obtain ⟨i, hi⟩ : ∃ i, cut Y s = i := ⟨_, rfl⟩
          have hbs := bsearch (some ⟨b, next, none⟩) y (c - next) Y s wr hy (by omega) hYs (fun _ => ⟨b, next, rfl, HYr.out⟩)
          rw [hi] at hcl hO2 hbs
          have HO2 : Hid (Out (zs.take n) (D.take kept ++ Y.take i) (Y.drop (i + 1)) (G.take jg ++ [s]) (G.drop (jg + 1))) := hO2
          have HGt : Hid (G.take (jg + 1) = G.take jg ++ [s]) := by
            show G.take (jg + 1) = _
            rw [List.take_succ_eq_append_getElem hlt, ← hs]
          obtain ⟨A, hA⟩ : ∃ A, A = Y.take i := ⟨_, rfl⟩
          have hAl : A.length = i := by rw [hA]; simp; omega
          have hAr : Hid (Reads wr b next A) := by
            show Reads wr b next A
            rw [hA]
            intro t ht
            have := HYr.out t (by simp at ht; omega)
            simpa using this
          have HA : Hid (A = Y.take i) := hA
          have hw0 : ¬ c = next := by omega
          have hw1 : ¬ c = kept := by omega
          have hin : i < y := by omega
          have hmin : i = Nat.min i (n - kept) := (Nat.min_eq_left (by omega)).symm
          have HM : Hid (A.length = Nat.min i (n - kept)) := by show A.length = _; rw [hAl]; exact hmin
          have hfit : kept + A.length ≤ D.length := by omega
          have hw5 : (next : Int) + (i : Int) ≤ (c : Int) := by omega
          clear hO hO2 hYs hi hs hGd hA hmin hcl
          go_wp2_with fail
          refine hbs.mono ?_
          rintro e w' ⟨⟨f, rfl⟩, q, rfl⟩
          clear hbs
          have hw2 : IntKind.i64.wrap ((next : Int) + (i : Int)) = (next : Int) + (i : Int) := by rw [IntKind.wrap_i64]; omega
          have hw3 : ((next : Int) + (i : Int)).toNat = next + i := by omega
          have hw4 : (0 : Int) ≤ (next : Int) + (i : Int) := by omega
          go_wp2_with fail
          go_region_law (refine step_copy_row rfl (.tmp 36) (.tmp 42) rfl (some ⟨b, kept, none⟩) (some ⟨b, next, none⟩) (n - kept) (c - kept) i (c - next) (by go_simp) (by go_simp) b kept D (HR.out) A HM.out (fun hp => ⟨rfl, b, next, rfl, hAr.out⟩) hfit b w (below_drewN HB.out _).drew (Nat.le_refl _) ?_; intro w4 hR4 hB4)
          have HR4 : Hid (Row w4 b (splice D kept A)) := hR4
          have HB4 : Hid (Below b w w4) := hB4
          clear hB4 hR4 hcell
          go_wp2
          go_roundg (G.length - (jg + 1))
          case measure => omega
          case rel =>
            refine ⟨kept + i, next + (i + 1), jg + 1, splice D kept A, rfl, by omega, by go_num, by go_num, by go_num, HR4.out, by rw [length_splice _ _ _ (by omega), hDc], by omega, by omega, ?_, ?_, HB4.out⟩
            · rw [splice_drop _ _ _ _ (by omega) (by omega), ← List.drop_drop, show D.drop next = zs.drop next from HDd.out, List.drop_drop]
            · have e1 := splice_take D A kept (by omega)
              rw [hAl] at e1
              rw [e1, show G.take (jg + 1) = _ from HGt.out, ← List.drop_drop, ← (show Y = (zs.take n).drop next from HY.out), (show A = Y.take i from HA.out)]
              exact HO2.out
        · obtain rfl : jg = G.length := by omega
          have hw0 : ¬ c = kept := by omega
          have hw1 : ¬ c = kept + y := by omega
          have hw7 : kept + y ≤ n := by omega
          have hw8 : kept + y ≤ c := by omega
          have HM : Hid (Y.length = Nat.min y (n - kept)) := by show Y.length = _; rw [hy]; exact (Nat.min_eq_left (by omega)).symm
          have hfit0 : kept + Y.length ≤ D.length := by omega
          have HO3 : Hid (Srt (D.take kept ++ Y) ∧ (D.take kept ++ Y ++ G).Perm (zs.take n)) := by
            rw [List.take_length, List.drop_length] at hO
            exact hO.done HX.out
          clear hO hYs
          go_wp2_with fail
          by_cases hcn : c = next
          · have hcn2 : (c = next) = True := eq_true hcn
            have HY0 : Hid (¬ 0 < Y.length) := by show ¬ 0 < Y.length; omega
            have hcy : (c : Int) = (next : Int) := by omega
            clear hcn hcy
            go_region_law (refine step_copy_row rfl (.tmp 53) (.tmp 56) rfl (some ⟨b, kept, none⟩) (some ⟨b, 0, none⟩) (n - kept) (c - kept) y (c - next) (by go_simp) (by go_simp) b kept D (HR.out) Y HM.out (fun hp => absurd hp HY0.out) hfit0 b w HB.out.drew (Nat.le_refl _) ?_; intro w4 hR4 hB4)
            clear hcn2
            have hD4 : (splice D kept Y).length = c := by rw [length_splice _ _ _ (by omega), hDc]
            obtain ⟨D4, hD4e⟩ : ∃ D4, D4 = splice D kept Y := ⟨_, rfl⟩
            rw [← hD4e] at hR4 hD4
            have HD4 : Hid (D4 = splice D kept Y) := hD4e
            have hfit : kept + y + (n - (kept + y)) ≤ D4.length := by omega
            have HB4 : Hid (Below b w w4) := hB4
            clear hB4 hD4e
            obtain ⟨w5, hrun5, hR5, hB5⟩ := run_clear 0 (some ⟨b, kept + y, none⟩) (n - (kept + y)) (c - (kept + y)) b (kept + y) D4 (hR4.out) (fun _ => rfl) hfit b w HB4.out (Nat.le_refl _)
            go_wp2_with fail
            go_meet
            case rel =>
              have hl : (D.take kept ++ Y).length = kept + y := by simp; omega
              refine ⟨D.take kept ++ Y, _, by rw [hl], hR5.out, by rw [length_splice _ _ _ (by simp; omega), hD4], ?_, HO3.out.2, HO3.out.1, hB5.out⟩
              rw [hl, splice_take_low _ _ _ _ (by omega) (Nat.le_refl _), HD4.out, ← hy, splice_take _ _ _ (by omega)]
          · go_region_law (refine step_copy_row rfl (.tmp 53) (.tmp 56) rfl (some ⟨b, kept, none⟩) (some ⟨b, next, none⟩) (n - kept) (c - kept) y (c - next) (by go_simp) (by go_simp) b kept D (HR.out) Y HM.out (fun hp => ⟨rfl, b, next, rfl, HYr.out⟩) hfit0 b w HB.out.drew (Nat.le_refl _) ?_; intro w4 hR4 hB4)
            have hD4 : (splice D kept Y).length = c := by rw [length_splice _ _ _ (by omega), hDc]
            obtain ⟨D4, hD4e⟩ : ∃ D4, D4 = splice D kept Y := ⟨_, rfl⟩
            rw [← hD4e] at hR4 hD4
            have HD4 : Hid (D4 = splice D kept Y) := hD4e
            have hfit : kept + y + (n - (kept + y)) ≤ D4.length := by omega
            have HB4 : Hid (Below b w w4) := hB4
            clear hB4 hD4e
            obtain ⟨w5, hrun5, hR5, hB5⟩ := run_clear 0 (some ⟨b, kept + y, none⟩) (n - (kept + y)) (c - (kept + y)) b (kept + y) D4 (hR4.out) (fun _ => rfl) hfit b w HB4.out (Nat.le_refl _)
            go_wp2_with fail
            go_meet
            case rel =>
              have hl : (D.take kept ++ Y).length = kept + y := by simp; omega
              refine ⟨D.take kept ++ Y, _, by rw [hl], hR5.out, by rw [length_splice _ _ _ (by simp; omega), hD4], ?_, HO3.out.2, HO3.out.1, hB5.out⟩
              rw [hl, splice_take_low _ _ _ _ (by omega) (Nat.le_refl _), HD4.out, ← hy, splice_take _ _ _ (by omega)]
  case rest =>
    obtain ⟨K, D, rfl, hD, hDc, hDK, hperm, hKs, hbel⟩ := hcut
    have hKc : K.length ≤ c := by have := congrArg List.length hDK; simp at this; omega
    have hsz := hbel.size
    have hCc : Row wc bc C := hC.below hbel hbc
    have HP : Hid ((K ++ G).Perm (zs.take n)) := hperm
    have HX : Hid (Srt (zs.take n)) := hX
    have HC : Hid (Row w bc C) := hC
    clear hperm hX hGX hg hz hC
    go_wp2_with fail
    refine (growRow b K.length m c D wc hD hDc hKc (by omega) (by omega)).mono ?_
    rintro e w1 ⟨b1, c1, D1, rfl, hD1, hD1c, hroom, hc1, hD1K, hB1, hsame, hbb⟩
    have hD1K' : D1.take K.length = K := by rw [hD1K, hDK]
    have hb1 : Below b w w1 := hbel.trans (hB1.mono (by omega))
    have hC1 : Row w1 bc C := hCc.below hB1 hCc.lt
    clear hD hDK hD1K hCc hB1
    go_wp2_with fail
    go_loopg [13, 14, 15] m (fun g s13 s14 s15 wr => ∃ (k j1 : Nat) (T U Z Dk : List Str), j1 = g ∧ s13 = .int .i64 (k : Int) ∧ s14 = .int .i64 ((j1 : Int) - 1) ∧ Row wr b1 Dk ∧ Dk = K.take k ++ (U ++ (T ++ Z)) ∧ U.length = j1 ∧ In K C T k j1 ∧ k ≤ K.length ∧ j1 ≤ m ∧ Below b w wr ∧ Dk.length = c1)
    case atStart =>
      refine ⟨K.length, m, [], (D1.drop K.length).take m, D1.drop (K.length + m), D1, rfl, rfl, rfl, hD1, ?_, by simp; omega, hm ▸ In.start K C, Nat.le_refl _, Nat.le_refl _, hb1, hD1c⟩
      rw [List.take_length, List.nil_append, ← List.drop_drop, List.take_append_drop]
      conv => rhs; rw [← hD1K']
      rw [List.length_take, show min K.length D1.length = K.length by omega, List.take_append_drop]
    case round =>
      obtain ⟨k, j1, T, U, Z, Dk, rfl, rfl, rfl, hDk, hDe, hU, hIn, hk, hj1, hbr, hDl⟩ := hrel
      cases j1 with
      | zero =>
        have hTl := hIn.length
        go_wp2
        go_ret
        refine ⟨b1, c1, Dk, K, rfl, hDk, hroom, hDl, hc1, ?_, HP.out, hKs, hsame, hbb, hbr⟩
        obtain rfl : U = [] := List.eq_nil_of_length_eq_zero hU
        rw [← hIn.done hKs, hDe, List.nil_append, ← List.append_assoc, List.take_append_of_le_length (by simp; omega), List.take_of_length_le (by simp; omega)]
      | succ j =>
        rw [show (((j + 1 : Nat) : Int) - 1) = (j : Int) by omega]
        have hjC : j < C.length := by omega
        have hCr : Row wr bc C := HC.out.below hbr hbc
        have hst := hIn.step hKs hCs hjC hk
        have hTl := hIn.length
        obtain ⟨s, hs⟩ : ∃ s, s = C[j] := ⟨_, rfl⟩
        have hcj : wr.cell? ⟨bc, j, none⟩ = some (.string ⟨s.toArray⟩) := by rw [hs]; exact hCr.cell j hjC
        rw [← hs] at hst
        have hrd : Reads wr b1 0 (K.take k) := by
          have := hDk.reads 0 k
          rw [List.drop_zero, hDe, List.take_append_of_le_length (by simp; omega), List.take_take, Nat.min_self] at this
          exact this
        have hKt : Srt (K.take k) := hKs.sublist (List.take_sublist _ _)
        have hKl : (K.take k).length = k := by simp; omega
        have hcut := cut_le (K.take k) s
        obtain ⟨i, hi⟩ : ∃ i, cut (K.take k) s = i := ⟨_, rfl⟩
        rw [hi, hKl] at hcut
        rw [hi] at hst
        have hsb : ∀ q, Calls Yba.prog 13 #[.slice (some ⟨b1, 0, none⟩) k c1, .string ⟨s.toArray⟩] (wr.drewN q) fun e w' => e = .returned (.int .i64 (i : Nat)) ∧ ∃ q', w' = (wr.drewN q).drewN q' := fun q => by
          have := searchBack b1 k c1 (K.take k) s (wr.drewN q) hKl (by omega) (by omega) hc1 hKt hrd
          rw [hi] at this
          exact this
        obtain ⟨Qs, hQ⟩ : ∃ Qs, Qs = (K.take k).drop i := ⟨_, rfl⟩
        have hQl : Qs.length = k - i := by rw [hQ]; simp; omega
        have hQr : Reads wr b1 i Qs := by
          rw [hQ]
          intro t ht
          simp at ht
          have := hrd (i + t) (by simp; omega)
          simp only [List.getElem_drop]
          rw [← this]; simp
        have HI : Hid (In K C (s :: ((K.take k).drop i ++ T)) i j) := hst
        have HD : Hid (Dk = K.take k ++ (U ++ (T ++ Z))) := hDe
        have HR : Hid (Row wr b1 Dk) := hDk
        have HQ : Hid (Reads wr b1 i Qs) := hQr
        have HB : Hid (Below b w wr) := hbr
        have HCj : Hid (∀ w', Below b w w' → w'.cell? ⟨bc, j, none⟩ = some (.string ⟨s.toArray⟩)) := fun w' h' => by rw [hs]; exact (HC.out.below h' hbc).cell j hjC
        have hlen : k + (j + 1) ≤ K.length + m := by omega
        have HS : Hid (splice Dk (i + j + 1) Qs = K.take i ++ ((Qs ++ U).take (j + 1) ++ (Qs ++ (T ++ Z)))) := by
          show splice Dk (i + j + 1) Qs = _
          have e1 : Dk = K.take i ++ (Qs ++ (U ++ (T ++ Z))) := by
            rw [hDe, hQ, ← List.append_assoc (K.take i)]
            congr 1
            conv => lhs; rw [← List.take_append_drop i (K.take k), List.take_take, Nat.min_eq_left hcut]
          have e2 := splice_up (K.take i) Qs U (T ++ Z) (j + 1) hU
          rw [List.length_take, Nat.min_eq_left (by omega), ← e1] at e2
          exact e2
        have hVl : ((Qs ++ U).take (j + 1)).length = j + 1 := by simp; omega
        clear hst hIn hDe hDk hrd hQr hbr hKt hi hs hCr hD1 hD1K' hb1 hC1
        go_wp2_with fail
        go_quiet (first | (go_at_call 13; exact Calls.quiet_of (hsb _)))
        clear hsb
        go_wp2_with fail
        have hw1 : IntKind.i64.wrap ((i : Int) + (j : Int)) = (i : Int) + (j : Int) := by rw [IntKind.wrap_i64]; omega
        have hw2 : IntKind.i64.wrap ((i : Int) + (j : Int) + 1) = (i : Int) + (j : Int) + 1 := by rw [IntKind.wrap_i64]; omega
        have hw3 : ((i : Int) + (j : Int) + 1).toNat = i + j + 1 := by omega
        have hw4 : (0 : Int) ≤ (i : Int) + (j : Int) + 1 := by omega
        have hw5 : (i : Int) + (j : Int) + 1 ≤ (K.length : Int) + (m : Int) := by omega
        have hw6 : ¬ c1 = i := by omega
        have hw8 : ¬ i + j + 1 = i := by omega
        have hw9 : k ≤ c1 := by omega
        by_cases hw7 : c1 = i + j + 1
        · have hw11 : (c1 = i + j + 1) = True := eq_true hw7
          have hQ0 : Qs.length = 0 := by omega
          clear hw7
          go_region_law (refine step_copy_row rfl (.tmp 96) (.tmp 100) rfl (some ⟨b1, 0, none⟩) (some ⟨b1, i, none⟩) (K.length + m - (i + j + 1)) (c1 - (i + j + 1)) (k - i) (c1 - i) (by go_simp) (by go_simp) b1 (i + j + 1) Dk (HR.out) Qs (by rw [hQ0, ← hQl, hQ0]; simp) (fun hp => absurd hp (by omega)) (by omega) b w (below_drewN HB.out _).drew (by omega) ?_; intro w4 hR4 hB4)
          have hS4 : Hid (Row w4 b1 (K.take i ++ ((Qs ++ U).take (j + 1) ++ (Qs ++ (T ++ Z))))) := by have := hR4.out; rw [HS.out] at this; exact this
          have hL4 : (splice Dk (i + j + 1) Qs).length = c1 := by rw [length_splice _ _ _ (by omega), hDl]
          have hc4 := hR4.out.cell (i + j) (by omega)
          have hf4 := hR4.out.free (i + j)
          have hcj4 := HCj.out w4 hB4
          have HB4 : Hid (Below b w w4) := hB4
          clear hB4 hcj hR4
          go_wp2
          go_roundg j
          case measure => omega
          case rel =>
            refine ⟨i, j, s :: (Qs ++ T), ((Qs ++ U).take (j + 1)).take j, Z, _, rfl, rfl, rfl, hS4.out.set (i + j) s, ?_, by rw [List.length_take, hVl]; omega, by rw [hQ]; exact HI.out, by omega, by omega, HB4.out.setCell (by show b ≤ b1; omega) _, ?_⟩
            · have e := set_last (K.take i) ((Qs ++ U).take (j + 1)) (Qs ++ (T ++ Z)) j s hVl
              rw [List.length_take, Nat.min_eq_left (by omega)] at e
              rw [e]
              simp
            · rw [List.length_set, ← HS.out]
              exact hL4
        · go_region_law (refine step_copy_row rfl (.tmp 96) (.tmp 100) rfl (some ⟨b1, i + j + 1, none⟩) (some ⟨b1, i, none⟩) (K.length + m - (i + j + 1)) (c1 - (i + j + 1)) (k - i) (c1 - i) (by go_simp) (by go_simp) b1 (i + j + 1) Dk (HR.out) Qs (by rw [hQl]; exact (Nat.min_eq_left (by omega)).symm) (fun hp => ⟨rfl, b1, i, rfl, HQ.out⟩) (by omega) b w (below_drewN HB.out _).drew (by omega) ?_; intro w4 hR4 hB4)
          have hS4 : Hid (Row w4 b1 (K.take i ++ ((Qs ++ U).take (j + 1) ++ (Qs ++ (T ++ Z))))) := by have := hR4.out; rw [HS.out] at this; exact this
          have hL4 : (splice Dk (i + j + 1) Qs).length = c1 := by rw [length_splice _ _ _ (by omega), hDl]
          have hc4 := hR4.out.cell (i + j) (by omega)
          have hf4 := hR4.out.free (i + j)
          have hcj4 := HCj.out w4 hB4
          have HB4 : Hid (Below b w w4) := hB4
          clear hB4 hcj hR4
          go_wp2
          go_roundg j
          case measure => omega
          case rel =>
            refine ⟨i, j, s :: (Qs ++ T), ((Qs ++ U).take (j + 1)).take j, Z, _, rfl, rfl, rfl, hS4.out.set (i + j) s, ?_, by rw [List.length_take, hVl]; omega, by rw [hQ]; exact HI.out, by omega, by omega, HB4.out.setCell (by show b ≤ b1; omega) _, ?_⟩
            · have e := set_last (K.take i) ((Qs ++ U).take (j + 1)) (Qs ++ (T ++ Z)) j s hVl
              rw [List.length_take, Nat.min_eq_left (by omega)] at e
              rw [e]
              simp
            · rw [List.length_set, ← HS.out]
              exact hL4
end Go.Proofs.Ybulkaqlg

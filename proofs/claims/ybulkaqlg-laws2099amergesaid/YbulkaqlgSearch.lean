/-
  The library's BinarySearch and Equal over rows of strings, and searchBack.
-/
import Derived.Test.YbulkaqlgLays
import Derived.Test.YbulkaqlgMath
import Derived.Sort.EncStr
import Derived.WalkKit
import Derived.Deep.LoopGhost
import Derived.Deep.Draws
import Derived.Below
namespace Go.Proofs.Ybulkaqlg
open Go.RowKit Go.Shelf Go.Lib
set_option linter.unusedVariables false
set_option linter.unusedSimpArgs false

theorem bytesLess_lt : ∀ (x y : List UInt8), Op.bytesLess x y = decide (x < y)
  | [], [] => by simp [Op.bytesLess]
  | [], _ :: _ => by simp [Op.bytesLess]
  | _ :: _, [] => by simp [Op.bytesLess]
  | a :: x, b :: y => by
    simp only [Op.bytesLess, bytesLess_lt x y, List.cons_lt_cons_iff]
    by_cases h : a < b
    · simp [h]
    · by_cases h2 : a = b
      · subst h2; simp
      · simp [h, h2]

/-- The row at block b, from place o on, reads as l. -/
def Reads (w : World) (b o : Nat) (l : List Str) : Prop := ∀ j (h : j < l.length), w.cell? ⟨b, o + j, none⟩ = some (encStr l[j])

theorem bsearch (a : Option Addr) (n c : Nat) (Y : List Str) (s : Str) (w : World) (hn : Y.length = n) (hbig : n < 4611686018427387904) (hY : Srt Y)
    (hr : 0 < n → ∃ b o, a = some ⟨b, o, none⟩ ∧ Reads w b o Y) :
    Calls Yba.prog 11 #[.slice a n c, .string ⟨s.toArray⟩] w fun e w' => (∃ f, e = .returned (.tuple #[.int .i64 (cut Y s : Nat), .bool f])) ∧ ∃ q, w' = w.drewN q := by
  rcases Nat.eq_zero_or_pos n with h0 | hpos
  · subst h0
    obtain rfl : Y = [] := List.eq_nil_of_length_eq_zero hn
    refine (Any2.slices_BinarySearch_string_empty Yba.laysNm226 a c ⟨s.toArray⟩ w).mono ?_
    rintro e w' ⟨rfl, rfl⟩
    exact ⟨⟨_, rfl⟩, 0, rfl⟩
  · obtain ⟨b, o, rfl, hc⟩ := hr hpos
    refine (Any2.slices_BinarySearch_string Yba.laysNm226 b o n c (fun t => ⟨(Y.getD t s).toArray⟩) ⟨s.toArray⟩ w hbig (fun j hj => ?_)).mono ?_
    · rw [hc j (by omega)]
      simp [List.getD, show j < Y.length by omega]
    · rintro e w' ⟨rfl, q, rfl⟩
      have key : Lib.bsGo (fun t => Op.bytesLess (ByteArray.mk (Y.getD t s).toArray).toList (ByteArray.mk s.toArray).toList) n 0 n = cut Y s := by
        refine Lib.bsGo_spec _ (cut Y s) (fun t ht => ?_) (fun t ht => ?_) n 0 n (by omega) (Nat.zero_le _) (by have := cut_le Y s; omega)
        · have hl : t < Y.length := by have := cut_le Y s; omega
          have := cut_below Y s t hl ht
          simp [Lib.toList_data, bytesLess_lt, List.getD, hl, this]
        · by_cases hl : t < Y.length
          · have := cut_above Y s hY t hl ht
            simp [Lib.toList_data, bytesLess_lt, List.getD, hl]
            exact this
          · simp [Lib.toList_data, bytesLess_lt, List.getD, List.getElem?_eq_none (show Y.length ≤ t by omega)]
            try exact List.le_refl s
      rw [key]
      exact ⟨⟨_, rfl⟩, q, rfl⟩

set_option maxRecDepth 100000 in
/-- searchBack. -/
theorem searchBack (b n c : Nat) (Y : List Str) (s : Str) (w : World) (hn : Y.length = n) (hbig : n ≤ 65536) (hnc : n ≤ c) (hc : c ≤ 9223372036854775807) (hY : Srt Y) (hr : Reads w b 0 Y) :
    Calls Yba.prog 13 #[.slice (some ⟨b, 0, none⟩) n c, .string ⟨s.toArray⟩] w fun e w' => e = .returned (.int .i64 (cut Y s : Nat)) ∧ ∃ q, w' = w.drewN q := by
  go_enter Yba.func13, Yba.ntmps13
  go_wp2
  go_loopg [5, 6, 7, 8, 9] n (fun g s5 s6 s7 s8 s9 wr => ∃ hi st : Nat, hi = g ∧ s5 = .int .i64 hi ∧ s6 = .int .i64 st ∧ hi ≤ n ∧ (hi = 0 ∨ st = n - hi + 1) ∧ st ≤ 2 * n + 2 ∧ (∀ t (h : t < Y.length), hi ≤ t → ¬ Y[t] < s) ∧ w = wr)
  case atStart => exact ⟨n, 1, rfl, rfl, rfl, Nat.le_refl _, .inr (by omega), by omega, fun t h h2 => absurd h2 (by omega), rfl⟩
  case round =>
    obtain ⟨hi, st, rfl, rfl, rfl, hin, hst, hst2, hab, rfl⟩ := hrel
    rcases Nat.eq_zero_or_pos hi with h0 | hpos
    · subst h0
      go_wp2
      go_ret
      refine ⟨?_, 0, rfl⟩
      rw [cut_unique Y s 0 (Nat.zero_le _) (fun t h h2 => absurd h2 (by omega)) (fun t h _ => hab t h (Nat.zero_le _))]
      rfl
    · obtain ⟨lo, hlo⟩ : ∃ lo : Nat, max ((hi : Int) - (st : Int)) 0 = (lo : Int) := ⟨hi - st, by omega⟩
      have hlo2 : lo < hi := by omega
      have hlo3 : lo = 0 ∨ 2 * st = n - lo + 1 := by omega
      have hcell : w.cell? ⟨b, lo, none⟩ = some (.string ⟨(Y[lo]'(by omega)).toArray⟩) := by simpa using hr lo (by omega)
      have hless := bytesLess_lt (Y[lo]'(by omega)) s
      by_cases hlt : (Y[lo]'(by omega)) < s
      · have hless2 : Op.bytesLess (Y[lo]'(by omega)) s = true := by rw [hless]; simpa using hlt
        have hYs : Srt ((Y.take hi).drop (lo + 1)) := hY.sublist ((List.drop_sublist _ _).trans (List.take_sublist _ _))
        have hrd : Reads w b (lo + 1) ((Y.take hi).drop (lo + 1)) := fun j hj => by
          simp at hj
          have := hr (lo + 1 + j) (by omega)
          simp only [List.getElem_drop, List.getElem_take]
          rw [← this]; simp
        have hfin : cut Y s = lo + 1 + cut ((Y.take hi).drop (lo + 1)) s := by
          have hcl := cut_le ((Y.take hi).drop (lo + 1)) s
          simp only [List.length_drop, List.length_take] at hcl
          refine cut_unique Y s _ (by omega) (fun t ht h2 => ?_) (fun t ht h2 => ?_)
          · by_cases htl : t ≤ lo
            · have hp : Y[t] ≤ (Y[lo]'(by omega)) := by
                rcases Nat.eq_or_lt_of_le htl with e | l
                · subst e; exact List.le_refl _
                · exact (List.pairwise_iff_getElem.1 hY) t lo ht (by omega) l
              exact List.lt_of_le_of_lt hp hlt
            · have := cut_below ((Y.take hi).drop (lo + 1)) s (t - (lo + 1)) (by simp; omega) (by omega)
              simp only [List.getElem_drop, List.getElem_take, show lo + 1 + (t - (lo + 1)) = t by omega] at this
              exact this
          · by_cases hth : hi ≤ t
            · exact hab t ht hth
            · have := cut_above ((Y.take hi).drop (lo + 1)) s hYs (t - (lo + 1)) (by simp; omega) (by omega)
              simp only [List.getElem_drop, List.getElem_take, show lo + 1 + (t - (lo + 1)) = t by omega] at this
              exact List.not_lt.2 this
        have hcl2 := cut_le ((Y.take hi).drop (lo + 1)) s
        simp only [List.length_drop, List.length_take] at hcl2
        clear hab
        go_wp2_with fail
        all_goals
          refine (bsearch _ _ _ ((Y.take hi).drop (lo + 1)) s w (by simp; omega) (by omega) hYs (fun hp => ?_)).mono ?_
          · first
              | (exfalso; omega)
              | exact ⟨b, lo + 1, rfl, hrd⟩
          · rintro e w' ⟨⟨f, rfl⟩, q, rfl⟩
            obtain ⟨i, hi2⟩ : ∃ i, cut ((Y.take hi).drop (lo + 1)) s = i := ⟨_, rfl⟩
            rw [hi2] at hfin hcl2 ⊢
            clear hYs hrd hr hY hi2
            go_wp2
            go_ret
            exact ⟨by rw [hfin]; congr 1, q, rfl⟩
      · have hless2 : Op.bytesLess (Y[lo]'(by omega)) s = false := by rw [hless]; simpa using List.not_lt.1 hlt
        have hab2 : ∀ t (h : t < Y.length), lo ≤ t → ¬ Y[t] < s := fun t ht hl hh => hlt (by
          have hp : (Y[lo]'(by omega)) ≤ Y[t] := by
            rcases Nat.eq_or_lt_of_le hl with e | l
            · subst e; exact List.le_refl _
            · exact (List.pairwise_iff_getElem.1 hY) lo t (by omega) ht l
          exact List.lt_of_le_of_lt hp hh)
        have H : Hid (∀ t (h : t < Y.length), lo ≤ t → ¬ Y[t] < s) := hab2
        clear hab hab2
        go_wp2_with fail
        go_roundg lo
        case measure => omega
        case rel => exact ⟨lo, 2 * st, rfl, rfl, by congr 1; push_cast; omega, by omega, hlo3, by omega, H.out, rfl⟩
end Go.Proofs.Ybulkaqlg

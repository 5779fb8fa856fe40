/-
  LawS2099AMerge: the walk.
-/
import Derived.Test.YbulkaqlgMore
namespace Go.Proofs.Ybulkaqlg
open Go.RowKit Go.Shelf Go.Lib Go.Sort
set_option linter.unusedVariables false
set_option linter.unusedSimpArgs false

theorem own_view {w : World} {base : Nat} {v : Value} {l : List Str} (h : w.ownsRow base 9 1 v l.length (l.map encStr)) :
    ∃ a c, v = .slice a l.length c ∧ l.length ≤ c ∧ c ≤ 9223372036854775807 ∧ (0 < l.length → ∃ b, a = some ⟨b, 0, none⟩ ∧ b < w.heap.size ∧ Reads w b 0 l) := by
  rcases h.2 with ⟨h1, h2⟩ | ⟨g, cap, cur, h1, h2, h3, h4, h5, h6, h7⟩
  · exact ⟨none, 0, by rw [h1, h2], by omega, by omega, fun hp => by omega⟩
  · refine ⟨some ⟨g, 0, none⟩, cap, h1, h4, by unfold maxLen at h5; omega, fun _ => ⟨g, rfl, (Array.getElem?_eq_some_iff.1 h3).1, fun j hj => ?_⟩⟩
    subst h1
    have := h.cellAt j (by omega)
    rw [Nat.zero_add, this]
    simp [hj]

theorem same_in (d : Nat) (b : Nat) (w : World) : (Op.equalIn (d + 1) 29 (.pointer (some ⟨b, 0, none⟩)) (.pointer (some ⟨b, 0, none⟩))).run Yba.prog w = .ok true w := by
  simp [Op.equalIn, run_underlying Yba.underlying29, Yba.sizeOf9, sameAddr]
theorem neq_same (b : Nat) (w : World) : (binOp .neq 29 (.pointer (some ⟨b, 0, none⟩)) (.pointer (some ⟨b, 0, none⟩))).run Yba.prog w = .ok (.bool false) w := by
  have h := same_in 9999 b w
  simp only [binOp]
  have h2 : (Op.equal 29 (.pointer (some ⟨b, 0, none⟩)) (.pointer (some ⟨b, 0, none⟩))).run Yba.prog w = .ok true w := h
  simp [h2]

set_option maxRecDepth 100000 in
set_option maxHeartbeats 2000000 in
theorem merge_main (an az ac : Option Addr) (n cn ns cs m cm : Nat) (X C : List Str) (S : Nat → Bool) (w : World) (hX : X.length = n) (hC : C.length = m) (hn : n ≤ 1024) (hns : ns ≤ 1024) (hm : m ≤ 1024)
    (rX : 0 < n → ∃ b o, an = some ⟨b, o, none⟩ ∧ b < w.heap.size ∧ Reads w b o X) (rC : 0 < m → ∃ b o, ac = some ⟨b, o, none⟩ ∧ b < w.heap.size ∧ Reads w b o C)
    (rS : 0 < ns → ∃ b o, az = some ⟨b, o, none⟩ ∧ b < w.heap.size ∧ ∀ j, j < ns → w.cell? ⟨b, o + j, none⟩ = some (.bool (S j))) :
    Calls Yba.prog 3 #[.slice an n cn, .slice az ns cs, .slice ac m cm] w fun e w' => e = .returned (.bool true) ∧ Below w.heap.size w w' := by
  have hp := prep an az ac n cn ns cs m cm X C S w hX hC hn hns hm rX rC rS
  clear rX rC rS
  have h1 : ¬ (1024 : Int) < (n : Int) := by omega
  have h2 : ¬ (1024 : Int) < (m : Int) := by omega
  have h3 : ¬ (1024 : Int) < (ns : Int) := by omega
  go_enter Yba.func3, Yba.ntmps3
  go_wp2_with fail
  refine hp.mono ?_
  rintro e w1 ⟨b0, bc, vg, vk, G, Kp, rfl, hR0, hRc, hoG, hoK, hsub, hperm, hG0, hB1⟩
  obtain ⟨ag, cg, rfl, hGc, hcg, hGr⟩ := own_view hoG
  obtain ⟨ak, ck, rfl, hKc, hck, hKr⟩ := own_view hoK
  obtain ⟨Z, hZ⟩ : ∃ Z, Z = sorted X := ⟨_, rfl⟩
  obtain ⟨Cs, hCs⟩ : ∃ Cs, Cs = sorted C := ⟨_, rfl⟩
  have hZl : Z.length = n := by rw [hZ, ← hX]; exact List.length_mergeSort _
  have hCl : Cs.length = m := by rw [hCs, ← hC]; exact List.length_mergeSort _
  have hZs : Srt Z := by rw [hZ]; exact srt_mergeSort X
  have hCss : Srt Cs := by rw [hCs]; exact srt_mergeSort C
  rw [← hZ] at hR0 hsub hperm
  rw [← hCs] at hRc
  have hlen := hperm.length_eq
  rw [List.length_append, hZl] at hlen
  obtain ⟨kl, hkl⟩ : ∃ kl, Kp.length = kl := ⟨_, rfl⟩
  obtain ⟨gl, hgl⟩ : ∃ gl, G.length = gl := ⟨_, rfl⟩
  rw [hkl] at hlen hKc hKr ⊢
  rw [hgl] at hlen hGc hGr ⊢
  have HP : Hid ((Kp ++ G).Perm Z) := hperm
  have HSub : Hid (List.Sublist G Z) := hsub
  clear hp hoG hoK hG0 hZ hCs hperm hsub
  obtain ⟨w2, hmk2, hR2, hB2, hs2⟩ := mk_row0 kl m (by omega) w1
  obtain ⟨bw, hbw⟩ : ∃ bw, w1.heap.size = bw := ⟨_, rfl⟩
  have hl0 := hR0.lt
  have hlc := hRc.lt
  have hsz1 := hB1.size
  rw [hbw] at hmk2 hR2 hB2 hs2 hl0 hlc hsz1 hGr hKr
  have HR0 : Hid (Row w1 b0 Z) := hR0
  have HRc : Hid (Row w1 bc Cs) := hRc
  have HB1 : Hid (Below w.heap.size w w1) := hB1
  have HGr : Hid (0 < gl → ∃ b, ag = some ⟨b, 0, none⟩ ∧ b < bw ∧ Reads w1 b 0 G) := hGr
  have Hrd2 : Hid (0 < kl → ∃ sb, ak = some ⟨sb, 0, none⟩ ∧ Reads w2 sb 0 Kp) := fun h => by
    obtain ⟨b, e1, e2, e3⟩ := hKr h
    exact ⟨b, e1, e3.below hB2.out e2⟩
  clear hR0 hRc hB1 hGr hKr
  have hD2 : (List.replicate (kl + m) ([] : Str)).length = kl + m := by simp
  go_upto_region 6 with (at_builtin; refine app_row rfl (.tmp 43) (.tmp 44) rfl bw 0 (kl + m) (List.replicate (kl + m) []) rfl hR2.out hD2 ak kl ck rfl Kp hkl (Hrd2.out) (by omega) bw w1 hB2.out (Nat.le_refl _) ?_; intro w3 hR3 hB3)
  have hD3 : (splice (List.replicate (kl + m) ([] : Str)) 0 Kp).length = kl + m := by rw [length_splice _ _ _ (by simp; omega)]; simp
  have Hrd3 : Hid (0 < m → ∃ sb, (some ⟨bc, 0, none⟩ : Option Addr) = some ⟨sb, 0, none⟩ ∧ Reads w3 sb 0 Cs) := fun _ => ⟨bc, rfl, ((show Row w1 bc Cs from HRc.out).below hB3.out hlc).reads0⟩
  clear hmk2
  go_upto_region 7 with (at_builtin; refine app_row rfl (.tmp 46) (.tmp 47) rfl bw kl (kl + m) (splice (List.replicate (kl + m) []) 0 Kp) rfl hR3.out hD3 (some ⟨bc, 0, none⟩) m m rfl Cs hCl (Hrd3.out) (Nat.le_refl _) bw w1 hB3.out (Nat.le_refl _) ?_; intro w4 hR4 hB4)
  rw [splice_fill kl m Kp Cs hkl hCl] at hR4
  go_wp2_with fail
  refine (sortRow bw (kl + m) (Kp ++ Cs) w4 hR4.out (by simp; omega) (by omega)).mono ?_
  rintro e w5 ⟨rfl, hR5, hg5⟩
  have hB5 : Below bw w1 w5 := hB4.out.grown hg5 (by have := hB4.out.size; omega) (fun q hq => by cases hq; exact Nat.le_refl _)
  obtain ⟨W, hW⟩ : ∃ W, W = sorted (Kp ++ Cs) := ⟨_, rfl⟩
  have hWl : W.length = kl + m := by rw [hW, List.length_mergeSort]; simp; omega
  rw [← hW] at hR5
  have HW : Hid (W = sorted (Kp ++ Cs)) := hW
  clear hW hg5 hR4 hB4 Hrd3 Hrd2 hD3 hD2 hR3 hB3 hR2 hB2 hs2
  obtain ⟨w6, hmk6, hR6, hB6, hs6⟩ := mk_row2 n m (by omega) w5
  obtain ⟨bf, hbf⟩ : ∃ bf, w5.heap.size = bf := ⟨_, rfl⟩
  have hlw := hR5.lt
  have hsz5 := hB5.size
  rw [hbf] at hmk6 hR6 hB6 hs6 hlw hsz5
  have hR0' : Row w5 b0 Z := (show Row w1 b0 Z from HR0.out).below hB5 hl0
  have hRc' : Row w5 bc Cs := (show Row w1 bc Cs from HRc.out).below hB5 hlc
  obtain ⟨w7, hcp7, hR7, hB7⟩ := run_cp (w := w6) 3 (some ⟨bf, 0, none⟩) (some ⟨b0, 0, none⟩) (n + m) (n + m) n n bf 0 (List.replicate (n + m) []) hR6.out Z (by rw [hZl]; exact (Nat.min_eq_left (by omega)).symm) (fun hp => ⟨rfl, b0, 0, rfl, (hR0'.below hB6.out (by omega)).reads0⟩) (by simp; omega) bf w5 hB6.out (Nat.le_refl _)
  rw [splice_head n m Z hZl] at hR7
  rw [hZl] at hcp7
  have hRc7 : Row w7 bc Cs := hRc'.below hB7.out (by omega)
  have hRw7 : Row w7 bw W := hR5.below hB7.out (by omega)
  have hB17 : Below w.heap.size w w7 := (HB1.out.trans (hB5.mono (by omega))).trans (hB7.out.mono (by omega))
  have hZt : (Z ++ List.replicate m ([] : Str)).take n = Z := by rw [List.take_append_of_le_length (by omega), List.take_of_length_le (by omega)]
  have hmg := mergeNames bf n (n + m) (Z ++ List.replicate m []) G ag cg bc m Cs w7 hR7.out (by simp; omega) (by omega) (by omega) (by rw [hZt]; exact hZs) (by omega) (by omega) hcg
    (fun h => by
      obtain ⟨b, e1, e2, e3⟩ := HGr.out (by omega)
      exact ⟨b, e1, by omega, (e3.below hB5 (by omega)).below hB7.out (by omega)⟩) (by rw [hZt]; exact HSub.out) hRc7 hCl (by omega) (by omega) hCss
  rw [hZt, hgl] at hmg
  have HRw7 : Hid (Row w7 bw W) := hRw7
  have HB17 : Hid (Below w.heap.size w w7) := hB17
  clear hRc7 hRw7 hB17 hR0' hRc' hB5 hR5
  go_wp2_with fail
  refine hmg.mono ?_
  rintro e w8 ⟨b1, c1, D, K, rfl, hR8, hKc8, hDl, hc1, hDt, hKp8, hKs, hsame, hbb1, hB8⟩
  have hKK : K.Perm Kp := (List.perm_append_right_iff G).1 (hKp8.trans (show (Kp ++ G).Perm Z from HP.out).symm)
  have hKl : K.length = kl := by rw [hKK.length_eq, hkl]
  rw [hKl] at hKc8 hDt hsame ⊢
  obtain rfl : b1 = bf := hsame (by omega)
  have hWe : D.take (kl + m) = W.take (kl + m) := by
    rw [hDt, List.take_of_length_le (show W.length ≤ kl + m by omega), (show W = _ from HW.out)]
    exact eq_mergeSort (srt_mergeSort _) ((List.mergeSort_perm _ _).trans (hKK.append_right _))
  have hRw8 : Row w8 bw W := (show Row w7 bw W from HRw7.out).below hB8 (by omega)
  have hBfin : Below w.heap.size w w8 := (show Below w.heap.size w w7 from HB17.out).trans (hB8.mono (by omega))
  have hE1 := equalRow b1 (kl + m) c1 bw (kl + m) D W w8 hR8 hRw8 (by omega) (by omega) hWe (by omega)
  have HBf : Hid (Below w.heap.size w w8) := hBfin
  clear hBfin hRw8 hR8 hDt hKp8 hKs hB8 hmg hWe hKK hsame
  go_wp2_with fail
  refine hE1.mono ?_
  rintro e w9 ⟨rfl, q, rfl⟩
  clear hE1
  go_wp2_with fail
  rcases Nat.eq_zero_or_pos (kl + m) with h0 | hpos
  · have z0 : kl = 0 := by omega
    have z1 : m = 0 := by omega
    have z2 : ¬ (0 : Int) < (kl : Int) + (m : Int) := by omega
    have z3 : ¬ 0 < kl + m := by omega
    go_quiet (fail)
    go_wp2
    go_ret
    first | exact ⟨rfl, below_drewN HBf.out _⟩ | exact ⟨rfl, below_drewN (below_drewN HBf.out _) _⟩
  · have z2 : (0 : Int) < (kl : Int) + (m : Int) := by omega
    have z3 : 0 < n + m := by omega
    have z4 : (0 : Int) < (n : Int) + (m : Int) := by omega
    have z5 := fun wx => neq_same b1 wx
    go_quiet (fail)
    go_wp2
    go_ret
    first | exact ⟨rfl, below_drewN HBf.out _⟩ | exact ⟨rfl, below_drewN (below_drewN HBf.out _) _⟩
end Go.Proofs.Ybulkaqlg

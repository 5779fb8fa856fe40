/-
  LawS2099AInsert: the walk.
-/
import Derived.Test.YbulkaqlgMore
namespace Go.Proofs.Ybulkaqlg
open Go.RowKit Go.Shelf Go.Lib Go.Sort
set_option linter.unusedVariables false
set_option linter.unusedSimpArgs false

set_option maxRecDepth 100000 in
set_option maxHeartbeats 2000000 in
theorem insert_main (an ac : Option Addr) (n cn m cm : Nat) (X C : List Str) (w : World) (hX : X.length = n) (hC : C.length = m) (hn : n ≤ 1024) (hm : m ≤ 1024)
    (rX : 0 < n → ∃ b o, an = some ⟨b, o, none⟩ ∧ b < w.heap.size ∧ Reads w b o X) (rC : 0 < m → ∃ b o, ac = some ⟨b, o, none⟩ ∧ b < w.heap.size ∧ Reads w b o C) :
    Calls Yba.prog 4 #[.slice an n cn, .slice ac m cm] w fun e w' => e = .returned (.bool true) ∧ Below w.heap.size w w' := by
  have hp := prep an none ac n cn 0 0 m cm X C (fun _ => false) w hX hC hn (by omega) hm rX rC (fun h => absurd h (by omega))
  clear rX rC
  have h1 : ¬ (1024 : Int) < (n : Int) := by omega
  have h2 : ¬ (1024 : Int) < (m : Int) := by omega
  go_enter Yba.func4, Yba.ntmps4
  go_wp2_with fail
  refine hp.mono ?_
  rintro e w1 ⟨b0, bc, vg, vk, G, Kp, rfl, hR0, hRc, hoG, hoK, hsub, hperm, hG0, hB1⟩
  obtain ⟨Z, hZ⟩ : ∃ Z, Z = sorted X := ⟨_, rfl⟩
  obtain ⟨Cs, hCs⟩ : ∃ Cs, Cs = sorted C := ⟨_, rfl⟩
  have hZl : Z.length = n := by rw [hZ, ← hX]; exact List.length_mergeSort _
  have hCl : Cs.length = m := by rw [hCs, ← hC]; exact List.length_mergeSort _
  have hZs : Srt Z := by rw [hZ]; exact srt_mergeSort X
  have hCss : Srt Cs := by rw [hCs]; exact srt_mergeSort C
  rw [← hZ] at hR0
  rw [← hCs] at hRc
  clear hp hoG hoK hsub hperm hG0 hZ hCs
  obtain ⟨w2, hmk2, hR2, hB2, hs2⟩ := mk_row0 n m (by omega) w1
  obtain ⟨bw, hbw⟩ : ∃ bw, w1.heap.size = bw := ⟨_, rfl⟩
  rw [hbw] at hmk2 hR2 hB2 hs2
  have hl0 := hR0.lt
  have hlc := hRc.lt
  rw [hbw] at hl0 hlc
  have HR0 : Hid (Row w1 b0 Z) := hR0
  have HRc : Hid (Row w1 bc Cs) := hRc
  have HB1 : Hid (Below w.heap.size w w1) := hB1
  have hsz1 := hB1.size
  clear hR0 hRc hB1
  have hD2 : (List.replicate (n + m) ([] : Str)).length = n + m := by simp
  have hrd2 : 0 < n → ∃ sb, (some ⟨b0, 0, none⟩ : Option Addr) = some ⟨sb, 0, none⟩ ∧ Reads w2 sb 0 Z := fun _ => ⟨b0, rfl, ((show Row w1 b0 Z from HR0.out).below hB2.out hl0).reads0⟩
  have Hrd2 : Hid (0 < n → ∃ sb, (some ⟨b0, 0, none⟩ : Option Addr) = some ⟨sb, 0, none⟩ ∧ Reads w2 sb 0 Z) := hrd2
  clear hrd2
  go_upto_region 6 with (at_builtin; refine app_row rfl (.tmp 35) (.tmp 36) rfl bw 0 (n + m) (List.replicate (n + m) []) rfl hR2.out hD2 (some ⟨b0, 0, none⟩) n n rfl Z hZl (Hrd2.out) (by omega) bw w1 hB2.out (Nat.le_refl _) ?_; intro w3 hR3 hB3)
  have hD3 : (splice (List.replicate (n + m) ([] : Str)) 0 Z).length = n + m := by rw [length_splice _ _ _ (by simp; omega)]; simp
  have Hrd3 : Hid (0 < m → ∃ sb, (some ⟨bc, 0, none⟩ : Option Addr) = some ⟨sb, 0, none⟩ ∧ Reads w3 sb 0 Cs) := fun _ => ⟨bc, rfl, ((show Row w1 bc Cs from HRc.out).below hB3.out hlc).reads0⟩
  clear hmk2
  go_upto_region 7 with (at_builtin; refine app_row rfl (.tmp 38) (.tmp 39) rfl bw n (n + m) (splice (List.replicate (n + m) []) 0 Z) rfl hR3.out hD3 (some ⟨bc, 0, none⟩) m m rfl Cs hCl (Hrd3.out) (Nat.le_refl _) bw w1 hB3.out (Nat.le_refl _) ?_; intro w4 hR4 hB4)
  rw [splice_fill n m Z Cs hZl hCl] at hR4
  go_wp2_with fail
  refine (sortRow bw (n + m) (Z ++ Cs) w4 hR4.out (by simp; omega) (by omega)).mono ?_
  rintro e w5 ⟨rfl, hR5, hg5⟩
  have hB5 : Below bw w1 w5 := hB4.out.grown hg5 (by have := hB4.out.size; omega) (fun q hq => by cases hq; exact Nat.le_refl _)
  obtain ⟨W, hW⟩ : ∃ W, W = sorted (Z ++ Cs) := ⟨_, rfl⟩
  have hWl : W.length = n + m := by rw [hW, List.length_mergeSort]; simp; omega
  rw [← hW] at hR5
  have HW : Hid (W = sorted (Z ++ Cs)) := hW
  clear hW hg5 hR4 hB4 Hrd3 Hrd2 hD3 hD2 hR3 hB3 hR2 hB2 hs2
  obtain ⟨w6, hmk6, hR6, hB6, hs6⟩ := mk_row m m (Nat.le_refl _) (by omega) w5
  obtain ⟨bb, hbb⟩ : ∃ bb, w5.heap.size = bb := ⟨_, rfl⟩
  have hlw := hR5.lt
  have hsz5 := hB5.size
  rw [hbb] at hmk6 hR6 hB6 hs6 hlw hsz5
  have hR0' : Row w5 b0 Z := (show Row w1 b0 Z from HR0.out).below hB5 hl0
  have hRc' : Row w5 bc Cs := (show Row w1 bc Cs from HRc.out).below hB5 hlc
  obtain ⟨w7, hcp7, hR7, hB7⟩ := run_cp (w := w6) 3 (some ⟨bb, 0, none⟩) (some ⟨bc, 0, none⟩) m m m m bb 0 (List.replicate m []) hR6.out Cs (by rw [hCl]; exact (Nat.min_self m).symm) (fun hp => ⟨rfl, bc, 0, rfl, (hRc'.below hB6.out (by omega)).reads0⟩) (by simp; omega) bb w5 hB6.out (Nat.le_refl _)
  rw [show splice (List.replicate m ([] : Str)) 0 Cs = Cs by unfold splice; simp; omega] at hR7
  rw [hCl] at hcp7
  obtain ⟨w8, hmk8, hR8, hB8, hs8⟩ := mk_row n n (Nat.le_refl _) (by omega) w7
  obtain ⟨bk, hbk⟩ : ∃ bk, w7.heap.size = bk := ⟨_, rfl⟩
  have hlb := hR7.out.lt
  rw [hbk] at hmk8 hR8 hB8 hs8 hlb
  have hR0'' : Row w7 b0 Z := hR0'.below hB7.out (by omega)
  obtain ⟨w9, hcp9, hR9, hB9⟩ := run_cp (w := w8) 3 (some ⟨bk, 0, none⟩) (some ⟨b0, 0, none⟩) n n n n bk 0 (List.replicate n []) hR8.out Z (by rw [hZl]; exact (Nat.min_self n).symm) (fun hp => ⟨rfl, b0, 0, rfl, (hR0''.below hB8.out (by omega)).reads0⟩) (by simp; omega) bk w7 hB8.out (Nat.le_refl _)
  rw [show splice (List.replicate n ([] : Str)) 0 Z = Z by unfold splice; simp; omega] at hR9
  rw [hZl] at hcp9
  have hRc9 : Row w9 bc Cs := (hRc'.below hB7.out (by omega)).below hB9.out (by omega)
  have hRw9 : Row w9 bw W := (hR5.below hB7.out (by omega)).below hB9.out (by omega)
  have hRb9 : Row w9 bb Cs := hR7.out.below hB9.out (by omega)
  have hB19 : Below w.heap.size w w9 := ((HB1.out.trans (hB5.mono (by omega))).trans (hB7.out.mono (by omega))).trans (hB9.out.mono (by omega))
  have hmg := mergeNames bk n n Z [] none 0 bc m Cs w9 hR9.out hZl (Nat.le_refl _) (by omega) (by rw [List.take_of_length_le (by omega)]; exact hZs) (by simp) (by simp) (by omega) (fun h => by simp at h) (by simp) hRc9 hCl (by omega) (by omega) hCss
  have HRc9 : Hid (Row w9 bc Cs) := hRc9
  have HRw9 : Hid (Row w9 bw W) := hRw9
  have HRb9 : Hid (Row w9 bb Cs) := hRb9
  have HB19 : Hid (Below w.heap.size w w9) := hB19
  clear hRc9 hRw9 hRb9 hB19 hR0'' hR0' hRc' hB5 hR5
  go_wp2_with fail
  refine hmg.mono ?_
  rintro e w10 ⟨b1, c1, D, K, rfl, hR10, hKc, hDl, hc1, hDt, hKp, hKs, hsame, hbb1, hB10⟩
  have hKZ : K = Z := eq_of_srt hKs hZs (by simpa [List.take_of_length_le (show Z.length ≤ n by omega)] using hKp)
  subst hKZ
  rw [hZl] at hKc hDt ⊢
  have hRw10 : Row w10 bw W := (show Row w9 bw W from HRw9.out).below hB10 (by omega)
  have hRc10 : Row w10 bc Cs := (show Row w9 bc Cs from HRc9.out).below hB10 (by omega)
  have hRb10 : Row w10 bb Cs := (show Row w9 bb Cs from HRb9.out).below hB10 (by omega)
  have hBfin : Below w.heap.size w w10 := (show Below w.heap.size w w9 from HB19.out).trans (hB10.mono (by omega))
  have hE1 := equalRow b1 (n + m) c1 bw (n + m) D W w10 hR10 hRw10 (by omega) (by omega) (by rw [hDt, List.take_of_length_le (show W.length ≤ n + m by omega)]; exact HW.out.symm) (by omega)
  have hE2 := fun (q : Nat) => equalRow bc m m bb m Cs Cs (w10.drewN q) hRc10 hRb10 (by omega) (by omega) rfl (by omega)
  have HBf : Hid (Below w.heap.size w w10) := hBfin
  clear hBfin hRb10 hRc10 hRw10 hR10 hDt hKp hKs hB10 hmg
  go_wp2_with fail
  refine hE1.mono ?_
  rintro e w11 ⟨rfl, q, rfl⟩
  go_wp2_with fail
  refine (hE2 q).mono ?_
  rintro e w12 ⟨rfl, q2, rfl⟩
  go_wp2
  go_ret
  exact ⟨rfl, below_drewN HBf.out _⟩
end Go.Proofs.Ybulkaqlg

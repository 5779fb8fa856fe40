/-
  The library's Sort over a row of strings; zzs2099aprep.
-/
import Derived.Test.YbulkaqlgHeap
import Derived.BigQuiet
import Derived.BigRegion
import Derived.Deep.QuietTactic
import Derived.Deep.DeepCutAuto
import Derived.Test.YbulkaqlgLaysSort
import Derived.Sort.OwnSorted
import Derived.OwnWalk
import Derived.ArgAppend
namespace Go.Proofs.Ybulkaqlg
open Go.RowKit Go.Shelf Go.Lib Go.Sort
set_option linter.unusedVariables false
set_option linter.unusedSimpArgs false

abbrev sorted (l : List Str) : List Str := l.mergeSort fun x y => decide (x ≤ y)

theorem sortRow (b n : Nat) (l : List Str) (w : World) (hR : Row w b l) (hl : l.length = n) (hn : n ≤ 4096) :
    Calls Yba.prog 6 #[.slice (some ⟨b, 0, none⟩) n n] w fun e w' => e = .returned (.tuple #[]) ∧ Row w' b (sorted l) ∧ w.grownBy w' (some b) := by
  subst hl
  refine (Any.slices_Sort_string Yba.lays190 b 0 l.length l w (holds_of_block hR (by rw [List.toList_toArray]; exact List.take_of_length_le (by simp))) hR.lt (by omega)).mono ?_
  rintro e w' ⟨rfl, q, os, rfl⟩
  refine ⟨rfl, ?_, grownBy_sorted _⟩
  unfold Row
  rw [heap_sorted _ hR]
  have h1 := take_putCells (l.map encStr).toArray (sorted l) (by simp)
  have h2 : (putCells encStr 0 (sorted l).toArray (l.map encStr).toArray).size = (sorted l).length := by simp [putCells]
  congr 2
  apply Array.toList_inj.1
  rw [← h1, List.take_of_length_le (by rw [Array.length_toList]; omega)]

theorem Row.grown {w w' : World} {b : Nat} {row : Option Nat} {l : List Str} (h : Row w b l) (hg : w.grownBy w' row) (hne : some b ≠ row) : Row w' b l := by
  have hl := h.lt
  unfold Row at h ⊢
  rw [hg.block b hl hne, h]

theorem row_made (w : World) (n : Nat) : Row (w.alloc (.cells (madeCells #[.string ⟨#[]⟩] n) 9)) w.heap.size (List.replicate n []) := by
  unfold Row
  show (w.heap.push _)[w.heap.size]? = _
  rw [Array.getElem?_push, if_pos rfl]
  congr 2
  apply Array.toList_inj.1
  apply List.ext_getElem
  · simp [madeCells]
  · intro i h1 h2
    simp [madeCells, Nat.mod_one, encStr]

theorem mk_row (n c : Nat) (hn : n ≤ c) (hc : c ≤ 4096) (w : World) : ∃ w1, (Instr.makeSlice 22 (.int .i64 (n : Int)) (.int .i64 (c : Int))).run Yba.prog w = .ok (.slice (some ⟨w.heap.size, 0, none⟩) n c) w1 ∧
    Hid (Row w1 w.heap.size (List.replicate c [])) ∧ Hid (Below w.heap.size w w1) ∧ Hid (w1.heap.size = w.heap.size + 1) := by
  obtain ⟨i, hi, hz, hs, hby⟩ := info9
  have hr := run_make (P := Yba.prog) w 22 9 i (.string ⟨#[]⟩) Yba.underlying22 hi hz .i64 .i64 n c (by omega) (by omega) (by rw [hby]; omega) (by omega)
  rw [hs, Int.toNat_natCast, Int.toNat_natCast, Nat.mul_one] at hr
  exact ⟨_, hr, row_made w c, (show Below _ _ _ from (Below.refl _ w).alloc (Nat.le_refl _) _), (show _ = _ by simp)⟩

theorem run_cp {w : World} (ty : TypeId) (dp sp : Option Addr) (dLen dCap sLen sCap : Nat)
    (g off : Nat) (D : List Str) (hg : Row w g D) (cs : List Str) (hn : cs.length = Nat.min sLen dLen)
    (hpos : 0 < cs.length → dp = some ⟨g, off, none⟩ ∧ ∃ sb so, sp = some ⟨sb, so, none⟩ ∧ Reads w sb so cs)
    (hfit : off + cs.length ≤ D.length) (B : Nat) (w0 : World) (hb : Below B w0 w) (hBg : B ≤ g) :
    ∃ w', (Builtin.copy_ #[22, 22] ty #[.slice dp dLen dCap, .slice sp sLen sCap]).run Yba.prog w = .ok (.int .i64 (cs.length : Int)) w' ∧ Hid (Row w' g (splice D off cs)) ∧ Hid (Below B w0 w') := by
  by_cases h0 : cs.length = 0
  · obtain rfl : cs = [] := List.eq_nil_of_length_eq_zero h0
    exact ⟨w, run_copy_none (P := Yba.prog) w 22 22 ty 9 dp sp dLen dCap sLen sCap Yba.underlying22 cellsOf9 (by simpa using hn.symm), (show Row _ _ _ by simpa [splice] using hg), hb⟩
  · obtain ⟨rfl, sb, so, rfl, hsrc⟩ := hpos (by omega)
    have hrun := run_copy_row (P := Yba.prog) w 22 22 ty 9 g off dLen dCap ⟨sb, so, none⟩ sLen sCap (D.map encStr).toArray 9 (cs.map encStr) Yba.underlying22 cellsOf9 hg (by simpa using hn) (src_enc hsrc) (by simpa using hfit) (one_enc cs)
    rw [List.length_map] at hrun
    exact ⟨_, hrun, (show Row _ _ _ by unfold Row; rw [← splice_map]; exact (by simpa [splice] using setRow_heap w g _ _ 9 _ hg)), (show Below _ _ _ from below_setRow hb hBg _)⟩

theorem ownsRow_below {w w' : World} {base : Nat} {v : Value} {n : Nat} {xs : List Value} (h : w.ownsRow base 9 1 v n xs) (hb : Below w.heap.size w w') : w'.ownsRow base 9 1 v n xs := by
  refine ⟨h.1, ?_⟩
  rcases h.2 with h | ⟨g, cap, cur, h1, h2, h3, h4⟩
  · exact .inl h
  · exact .inr ⟨g, cap, cur, h1, h2, by rw [hb.block g (Array.getElem?_eq_some_iff.1 h3).1]; exact h3, h4⟩
theorem ownsRow_mono {w : World} {base base' : Nat} {v : Value} {n : Nat} {xs : List Value} (h : w.ownsRow base 9 1 v n xs) (hb : base' ≤ base) : w.ownsRow base' 9 1 v n xs := by
  refine ⟨h.1, ?_⟩
  rcases h.2 with h | ⟨g, cap, cur, h1, h2, h3⟩
  · exact .inl h
  · exact .inr ⟨g, cap, cur, h1, by omega, h3⟩

theorem append_one {ops : Array Oper} {rest : List Oper} {o : Oper} {a : Act} {w : World} {Q : Exit → Act → World → Prop} (hgd : o.guard = none) (s x : Operand)
    (ho : o.op = .call { callee := .builtin .append, args := #[s, x], argTypes := #[22, 22] }) (base : Nat) (v : Value) (n : Nat) (xs : List Value) (hs : a.eval s = v) (hown : w.ownsRow base 9 1 v n xs)
    (ad : Addr) (c : Nat) (u : Str) (hx : a.eval x = .slice (some ad) 1 c) (hnews : ∀ j t, [encStr u][j]? = some t → w.cell? (ad.add j) = some t) (hn : n ≤ 4096) (hbase : base ≤ w.heap.size)
    (h : ∀ v' w', w'.ownsRow base 9 1 v' (n + 1) (xs ++ [encStr u]) → w.grownBy w' v.ownBlock → (∀ k, v'.ownBlock = some k → v.ownBlock = some k ∨ w.heap.size ≤ k) → wpList Yba.prog ops Q rest (a.put o.dst v') w') :
    wpList Yba.prog ops Q (o :: rest) a w := by
  obtain ⟨i, hi, hz, hsz, hby⟩ := info9
  have hone : ∀ t ∈ [encStr u], t.oneCell' = true := by intro t ht; simp at ht; subst ht; rfl
  rcases hown.2 with ⟨rfl, rfl⟩ | ⟨g, cap, cur, rfl, hbg, hg, hnc, hcm, hcs, htake⟩
  · have hx0 : xs = [] := List.eq_nil_of_length_eq_zero (by simpa using hown.1)
    subst hx0
    refine wpList_append_grows w hgd s x 22 ho 9 i (.string ⟨#[]⟩) 1 16 Yba.underlying22 hi hz hsz hby rfl (by omega) none 0 0 [] hs (fun _ => ⟨rfl, rfl⟩) rfl (fun b hb => by cases hb) ad 1 c [encStr u] hx rfl hnews hone (by omega) (by unfold maxLen; omega) (by omega) ?_
    intro v' w' r1 r2
    refine h v' w' (ownsRow_mono r1 hbase) r2 (fun k hk => .inr (r1.lt k hk).1)
  · by_cases hroom : n + 1 ≤ cap
    · refine wpList_append_fits w hgd s x 22 ho base 9 i 1 Yba.underlying22 hi hsz g n cap xs hs hown ad 1 c [encStr u] hx rfl hnews hone hroom ?_
      intro w' r1 r2
      exact h _ w' r1 r2 (fun k hk => .inl hk)
    · refine wpList_append_grows w hgd s x 22 ho 9 i (.string ⟨#[]⟩) 1 16 Yba.underlying22 hi hz hsz hby rfl (by omega) (some ⟨g, 0, none⟩) n cap xs hs (fun hh => by cases hh) (by simpa using hown.1) (fun b hb => by cases hb; exact hown.cells (g := g) rfl) ad 1 c [encStr u] hx rfl hnews hone (by omega) (by unfold maxLen; omega) (by omega) ?_
      intro v' w' r1 r2
      exact h v' w' (ownsRow_mono r1 hbase) ⟨r2.os, r2.tape, r2.output, r2.size, fun k hk _ => r2.block k hk (by simp)⟩ (fun k hk => .inr (r1.lt k hk).1)

theorem new_one (w : World) (s : Str) : ∀ j t, [encStr s][j]? = some t → (w.alloc (.cells #[.string ⟨s.toArray⟩] 9)).cell? ((⟨w.heap.size, 0, none⟩ : Addr).add j) = some t := by
  intro j t h
  cases j with
  | zero =>
    simp at h; subst h
    have e : (⟨w.heap.size, 0, none⟩ : Addr).add 0 = ⟨w.heap.size, 0, none⟩ := by unfold Addr.add; split <;> simp_all
    rw [e]
    have h2 : (w.alloc (.cells #[.string ⟨s.toArray⟩] 9)).heap[w.heap.size]? = some (.cells #[.string ⟨s.toArray⟩] 9) := by
      show (w.heap.push _)[w.heap.size]? = _
      rw [Array.getElem?_push, if_pos rfl]
    unfold World.cell?
    simp only [h2]
    rfl
  | succ j => simp at h

theorem results_tmp4 {fn : Func} {t u v x : Tmp} (h : fn.results = #[.tmp t, .tmp u, .tmp v, .tmp x]) (tmps : Array Value) (P : Program) (w : World) :
    (results fn tmps).run P w = .ok (.tuple #[tmps.getD t undef, tmps.getD u undef, tmps.getD v undef, tmps.getD x undef]) w := by
  simp [results, h]

set_option maxRecDepth 100000 in
set_option maxHeartbeats 2000000 in
theorem prep (an az ac : Option Addr) (n cn ns cs m cm : Nat) (X C : List Str) (S : Nat → Bool) (w : World) (hX : X.length = n) (hC : C.length = m) (hn : n ≤ 1024) (hns : ns ≤ 1024) (hm : m ≤ 1024)
    (rX : 0 < n → ∃ b o, an = some ⟨b, o, none⟩ ∧ b < w.heap.size ∧ Reads w b o X) (rC : 0 < m → ∃ b o, ac = some ⟨b, o, none⟩ ∧ b < w.heap.size ∧ Reads w b o C)
    (rS : 0 < ns → ∃ b o, az = some ⟨b, o, none⟩ ∧ b < w.heap.size ∧ ∀ j, j < ns → w.cell? ⟨b, o + j, none⟩ = some (.bool (S j))) :
    Calls Yba.prog 5 #[.slice an n cn, .slice az ns cs, .slice ac m cm] w fun e w' => ∃ b0 bc vg vk G Kp,
      e = .returned (.tuple #[.slice (some ⟨b0, 0, none⟩) n n, vg, vk, .slice (some ⟨bc, 0, none⟩) m m]) ∧ Row w' b0 (sorted X) ∧ Row w' bc (sorted C) ∧
      w'.ownsRow w.heap.size 9 1 vg G.length (G.map encStr) ∧ w'.ownsRow w.heap.size 9 1 vk Kp.length (Kp.map encStr) ∧ List.Sublist G (sorted X) ∧ (Kp ++ G).Perm (sorted X) ∧ (ns = 0 → G = []) ∧ Below w.heap.size w w' := by
  obtain ⟨B, hB⟩ : ∃ B, w.heap.size = B := ⟨_, rfl⟩
  obtain ⟨w1, hmk1, hR1, hB1, hs1⟩ := mk_row n n (Nat.le_refl _) (by omega) w
  rw [hB] at hmk1 hR1 hB1 hs1 rX rC rS ⊢
  have hs1' : B ≤ w1.heap.size := by have := hs1.out; omega
  obtain ⟨w2, hcp2, hR2, hB2⟩ := run_cp (w := w1) 3 (some ⟨B, 0, none⟩) an n n n cn B 0 (List.replicate n []) hR1.out X (by rw [hX]; exact (Nat.min_self n).symm) (fun hp => by
    obtain ⟨b, o, h1, h2, h3⟩ := rX (by omega)
    exact ⟨rfl, b, o, h1, h3.below hB1.out h2⟩) (by simp; omega) B w hB1.out (Nat.le_refl _)
  have HrC : Hid (0 < m → ∃ b o, ac = some ⟨b, o, none⟩ ∧ b < B ∧ Reads w b o C) := rC
  have HrS : Hid (0 < ns → ∃ b o, az = some ⟨b, o, none⟩ ∧ b < B ∧ ∀ j, j < ns → w.cell? ⟨b, o + j, none⟩ = some (.bool (S j))) := rS
  clear rC rS rX
  go_enter Yba.func5, Yba.ntmps5
  go_wp2_with fail
  have hX4 : splice (List.replicate n ([] : Str)) 0 X = X := by unfold splice; simp; omega
  rw [hX4] at hR2
  refine (sortRow B n X w2 hR2.out hX (by omega)).mono ?_
  rintro e w3 ⟨rfl, hR3, hg3⟩
  have hB3 : Below B w w3 := hB2.out.grown hg3 (by have := hB2.out.size; omega) (fun k hk => by cases hk; exact Nat.le_refl _)
  obtain ⟨Z, hZ⟩ : ∃ Z, Z = sorted X := ⟨_, rfl⟩
  have hZl : Z.length = n := by rw [hZ, ← hX]; exact List.length_mergeSort _
  rw [← hZ] at hR3
  have HZ : Hid (Z = sorted X) := hZ
  have HR3 : Hid (Row w3 B Z) := hR3
  have HB3 : Hid (Below B w w3) := hB3
  have hlt3 := hR3.lt
  clear hR3 hB3 hg3 hR2 hB2 hZ hmk1 hX4 hcp2
  go_wp2_with fail
  go_loopg [7, 8, 10, 11, 22] n (fun g s7 s8 s10 s11 s22 wr => ∃ (k : Nat) (G Kp : List Str), n - k = g ∧ k ≤ n ∧ s22 = .int .i64 (k : Int) ∧ wr.ownsRow (B + 1) 9 1 s7 G.length (G.map encStr) ∧ wr.ownsRow (B + 1) 9 1 s8 Kp.length (Kp.map encStr) ∧ (s7.ownBlock = none ∨ s7.ownBlock ≠ s8.ownBlock) ∧ Row wr B Z ∧ List.Sublist G (Z.take k) ∧ (Kp ++ G).Perm (Z.take k) ∧ (ns = 0 → G = []) ∧ Below B w wr)
  case atStart => exact ⟨0, [], [], rfl, Nat.zero_le _, rfl, World.ownsRow_nil _ _ _ _, World.ownsRow_nil _ _ _ _, .inl rfl, HR3.out, by simp, by simp, fun _ => rfl, HB3.out⟩
  case round =>
    obtain ⟨k, G, Kp, rfl, hk, rfl, hoG, hoK, hsep, hRr, hsub, hperm, hG0, hBr⟩ := hrel
    have HoG : Hid (wr.ownsRow (B + 1) 9 1 u7 G.length (G.map encStr)) := hoG
    have HoK : Hid (wr.ownsRow (B + 1) 9 1 u8 Kp.length (Kp.map encStr)) := hoK
    have HRr : Hid (Row wr B Z) := hRr
    have HBr : Hid (Below B w wr) := hBr
    have hltr := hRr.lt
    have hlenp := hperm.length_eq
    have hGK : G.length ≤ 1024 ∧ Kp.length ≤ 1024 := by simp at hlenp; omega
    obtain ⟨hGl, hKl⟩ := hGK
    have HP : Hid ((Kp ++ G).Perm (Z.take k)) := hperm
    have HSb : Hid (List.Sublist G (Z.take k)) := hsub
    have HG0 : Hid (ns = 0 → G = []) := hG0
    have Hsep : Hid (u7.ownBlock = none ∨ u7.ownBlock ≠ u8.ownBlock) := hsep
    clear hoG hoK hRr hBr hperm hsub hG0 hsep hlenp
    by_cases hlt : k < n
    · have hcell : wr.cell? ⟨B, k, none⟩ = some (.string ⟨(Z[k]'(by omega)).toArray⟩) := HRr.out.cell k (by omega)
      obtain ⟨s, hs⟩ : ∃ s, s = Z[k]'(by omega) := ⟨_, rfl⟩
      rw [← hs] at hcell
      have HT : Hid (Z.take (k + 1) = Z.take k ++ [s]) := by
        show Z.take (k + 1) = _
        rw [List.take_succ_eq_append_getElem (by omega), ← hs]
      have goneWay : ∀ v' w', w'.ownsRow (B + 1) 9 1 v' (G.length + 1) (G.map encStr ++ [encStr s]) → (wr.alloc (.cells #[.string ⟨s.toArray⟩] 9)).grownBy w' u7.ownBlock → (∀ q, v'.ownBlock = some q → u7.ownBlock = some q ∨ (wr.alloc (.cells #[.string ⟨s.toArray⟩] 9)).heap.size ≤ q) → ns ≠ 0 →
          ∃ (k' : Nat) (G' Kp' : List Str), n - k' = n - (k + 1) ∧ k' ≤ n ∧ Value.int .i64 ((k : Int) + 1) = .int .i64 (k' : Int) ∧ w'.ownsRow (B + 1) 9 1 v' G'.length (G'.map encStr) ∧ w'.ownsRow (B + 1) 9 1 u8 Kp'.length (Kp'.map encStr) ∧ (v'.ownBlock = none ∨ v'.ownBlock ≠ u8.ownBlock) ∧ Row w' B Z ∧ List.Sublist G' (Z.take k') ∧ (Kp' ++ G').Perm (Z.take k') ∧ (ns = 0 → G' = []) ∧ Below B w w' := by
        intro v' w' h1 h2 h3 h4
        have hK1 := HoK.out.alloc (.cells #[.string ⟨s.toArray⟩] 9)
        have hlo := HoG.out.lt
        refine ⟨k + 1, G ++ [s], Kp, rfl, by omega, by push_cast; rfl, by simpa using h1, hK1.kept h2 ?_, ?_, ?_, ?_, ?_, fun h => absurd h h4, ?_⟩
        · rcases Hsep.out with h | h
          · rw [h]
            cases hk8 : u8.ownBlock with
            | none => exact .inl rfl
            | some q => exact .inr (by simp)
          · exact .inr (fun e => h e.symm)
        · cases hv : v'.ownBlock with
          | none => exact .inl rfl
          | some q =>
            right
            intro e
            have hq := (HoK.out.lt q e.symm).2
            rcases h3 q hv with h | h
            · rcases Hsep.out with h' | h'
              · rw [h'] at h; cases h
              · exact h' (by rw [h, ← e])
            · simp at h; omega
        · have hRa : Row (wr.alloc (.cells #[.string ⟨s.toArray⟩] 9)) B Z := HRr.out.below ((Below.refl _ wr).alloc (Nat.le_refl _) _) hltr
          exact hRa.grown h2 (fun e => by have := (hlo B e.symm).1; omega)
        · rw [HT.out]; exact HSb.out.append (List.Sublist.refl _)
        · rw [HT.out, ← List.append_assoc]; exact HP.out.append_right _
        · exact (HBr.out.alloc (by omega) _).grown h2 (by simp; omega) (fun q hq => by have := (hlo q hq).1; omega)
      have keptWay : ∀ v' w', w'.ownsRow (B + 1) 9 1 v' (Kp.length + 1) (Kp.map encStr ++ [encStr s]) → (wr.alloc (.cells #[.string ⟨s.toArray⟩] 9)).grownBy w' u8.ownBlock → (∀ q, v'.ownBlock = some q → u8.ownBlock = some q ∨ (wr.alloc (.cells #[.string ⟨s.toArray⟩] 9)).heap.size ≤ q) →
          ∃ (k' : Nat) (G' Kp' : List Str), n - k' = n - (k + 1) ∧ k' ≤ n ∧ Value.int .i64 ((k : Int) + 1) = .int .i64 (k' : Int) ∧ w'.ownsRow (B + 1) 9 1 u7 G'.length (G'.map encStr) ∧ w'.ownsRow (B + 1) 9 1 v' Kp'.length (Kp'.map encStr) ∧ (u7.ownBlock = none ∨ u7.ownBlock ≠ v'.ownBlock) ∧ Row w' B Z ∧ List.Sublist G' (Z.take k') ∧ (Kp' ++ G').Perm (Z.take k') ∧ (ns = 0 → G' = []) ∧ Below B w w' := by
        intro v' w' h1 h2 h3
        have hG1 := HoG.out.alloc (.cells #[.string ⟨s.toArray⟩] 9)
        have hlo := HoK.out.lt
        refine ⟨k + 1, G, Kp ++ [s], rfl, by omega, by push_cast; rfl, hG1.kept h2 ?_, by simpa using h1, ?_, ?_, ?_, ?_, HG0.out, ?_⟩
        · exact Hsep.out
        · cases hv : u7.ownBlock with
          | none => exact .inl rfl
          | some q =>
            right
            intro e
            have hq := (HoG.out.lt q hv).2
            rcases h3 q e.symm with h | h
            · rcases Hsep.out with h' | h'
              · rw [h'] at hv; cases hv
              · exact h' (by rw [h, hv])
            · simp at h; omega
        · have hRa : Row (wr.alloc (.cells #[.string ⟨s.toArray⟩] 9)) B Z := HRr.out.below ((Below.refl _ wr).alloc (Nat.le_refl _) _) hltr
          exact hRa.grown h2 (fun e => by have := (hlo B e.symm).1; omega)
        · rw [HT.out]; exact HSb.out.trans (List.sublist_append_left _ _)
        · rw [HT.out]
          refine List.Perm.trans ?_ (HP.out.append_right [s])
          rw [List.append_assoc, List.append_assoc]
          exact List.Perm.append_left _ List.perm_append_comm
        · exact (HBr.out.alloc (by omega) _).grown h2 (by simp; omega) (fun q hq => by have := (hlo q hq).1; omega)
      have HGW : Hid _ := goneWay
      have HKW : Hid _ := keptWay
      have HN1 : Hid _ := new_one wr s
      clear goneWay keptWay hs
      by_cases hkn : k < ns
      · obtain ⟨sb, so, rfl, hsb, hsr⟩ := HrS.out (by omega)
        have hsel : wr.cell? ⟨sb, so + k, none⟩ = some (.bool (S k)) := by rw [HBr.out.cell (p := ⟨sb, so + k, none⟩) hsb]; exact hsr k hkn
        clear hsr
        cases hSk : S k
        · rw [hSk] at hsel
          go_wp2_with (at_builtin; refine append_one rfl (.tmp 41) (.tmp 43) rfl (B + 1) u8 Kp.length (Kp.map encStr) rfl (HoK.out.alloc _) ⟨wr.heap.size, 0, none⟩ 1 s rfl HN1.out (by omega) (by simp; omega) ?_; intro v' w' g1 g2 g3)
          go_roundg (n - (k + 1))
          case measure => omega
          case rel => exact HKW.out v' w' g1 g2 g3
        · rw [hSk] at hsel
          go_wp2_with (at_builtin; refine append_one rfl (.tmp 37) (.tmp 39) rfl (B + 1) u7 G.length (G.map encStr) rfl (HoG.out.alloc _) ⟨wr.heap.size, 0, none⟩ 1 s rfl HN1.out (by omega) (by simp; omega) ?_; intro v' w' g1 g2 g3)
          go_roundg (n - (k + 1))
          case measure => omega
          case rel => exact HGW.out v' w' g1 g2 g3 (by omega)
      · clear HGW
        go_wp2_with (at_builtin; refine append_one rfl (.tmp 41) (.tmp 43) rfl (B + 1) u8 Kp.length (Kp.map encStr) rfl (HoK.out.alloc _) ⟨wr.heap.size, 0, none⟩ 1 s rfl HN1.out (by omega) (by simp; omega) ?_; intro v' w' g1 g2 g3)
        go_roundg (n - (k + 1))
        case measure => omega
        case rel => exact HKW.out v' w' g1 g2 g3
    · obtain rfl : k = n := by omega
      obtain ⟨w4, hmk4, hR4, hB4, hs4⟩ := mk_row m m (Nat.le_refl _) (by omega) wr
      obtain ⟨bc, hbc⟩ : ∃ bc, wr.heap.size = bc := ⟨_, rfl⟩
      rw [hbc] at hmk4 hR4 hB4 hs4 hltr
      obtain ⟨w5, hcp5, hR5, hB5⟩ := run_cp (w := w4) 3 (some ⟨bc, 0, none⟩) ac m m m cm bc 0 (List.replicate m []) hR4.out C (by rw [hC]; exact (Nat.min_self m).symm) (fun hp => by
        obtain ⟨b, o, h1, h2, h3⟩ := HrC.out (by omega)
        exact ⟨rfl, b, o, h1, (h3.below HBr.out h2).below hB4.out (by omega)⟩) (by simp; omega) bc wr hB4.out (Nat.le_refl _)
      have hC4 : splice (List.replicate m ([] : Str)) 0 C = C := by unfold splice; simp; omega
      rw [hC4] at hR5
      go_wp2_with fail
      refine (sortRow bc m C w5 hR5.out hC (by omega)).mono ?_
      rintro e w6 ⟨rfl, hR6, hg6⟩
      have hfin : ∃ b0 bc vg vk G Kp, Ending.returned (.tuple #[.slice (some ⟨B, 0, none⟩) k k, u7, u8, .slice (some ⟨wr.heap.size, 0, none⟩) m m]) = .returned (.tuple #[.slice (some ⟨b0, 0, none⟩) k k, vg, vk, .slice (some ⟨bc, 0, none⟩) m m]) ∧ Row w6 b0 (sorted X) ∧ Row w6 bc (sorted C) ∧
          w6.ownsRow B 9 1 vg G.length (G.map encStr) ∧ w6.ownsRow B 9 1 vk Kp.length (Kp.map encStr) ∧ List.Sublist G (sorted X) ∧ (Kp ++ G).Perm (sorted X) ∧ (ns = 0 → G = []) ∧ Below B w w6 := by
        have hZt : Z.take k = Z := List.take_of_length_le (by omega)
        have hb5 : Below wr.heap.size wr w5 := by rw [hbc]; exact hB5.out
        have hP : (Kp ++ G).Perm Z := by have := HP.out; rw [hZt] at this; exact this
        have hS : List.Sublist G Z := by have := HSb.out; rw [hZt] at this; exact this
        have hoG := (ownsRow_below HoG.out hb5).kept hg6 (by
          cases hv : u7.ownBlock with
          | none => exact .inl rfl
          | some q => right; intro e; have := (HoG.out.lt q hv).2; simp at e; omega)
        have hoK := (ownsRow_below HoK.out hb5).kept hg6 (by
          cases hv : u8.ownBlock with
          | none => exact .inl rfl
          | some q => right; intro e; have := (HoK.out.lt q hv).2; simp at e; omega)
        have hRB : Row w6 B Z := (HRr.out.below hB5.out hltr).grown hg6 (by simp; omega)
        have hBB : Below B w w6 := (HBr.out.trans (hB5.out.mono (by omega))).grown hg6 (by have := hB5.out.size; omega) (fun q hq => by cases hq; omega)
        rw [HZ.out] at hRB hP hS
        rw [hbc]
        exact ⟨B, bc, u7, u8, G, Kp, rfl, hRB, hR6, ownsRow_mono hoG (by omega), ownsRow_mono hoK (by omega), hS, hP, HG0.out, hBB⟩
      rw [hbc] at hfin
      have HF : Hid _ := hfin
      clear hfin hmk4 hcp5 hg6 hR6
      go_wp2
      (try simp only [Exit.inBlock, Exit.then])
      refine bodyPost_ret (results_tmp4 rfl _ _ _) rfl ?_
      exact HF.out
end Go.Proofs.Ybulkaqlg

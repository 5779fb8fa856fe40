/-
  Rows of strings: what a block holds; copy, clear and Grow over such rows.
-/
import Derived.Test.YbulkaqlgSearch
import Derived.Laws.CopyOwn
import Derived.Laws.AppendOwn
namespace Go.Proofs.Ybulkaqlg
open Go.RowKit Go.Shelf Go.Lib
set_option linter.unusedVariables false
set_option linter.unusedSimpArgs false

/-- Block b is a row of the strings l. -/
def Row (w : World) (b : Nat) (l : List Str) : Prop := w.heap[b]? = some (.cells (l.map encStr).toArray 9 (0, 0))

theorem Row.lt {w : World} {b : Nat} {l : List Str} (h : Row w b l) : b < w.heap.size := (Array.getElem?_eq_some_iff.1 h).1
theorem Row.cell {w : World} {b : Nat} {l : List Str} (h : Row w b l) (i : Nat) (hi : i < l.length) : w.cell? ⟨b, i, none⟩ = some (.string ⟨l[i].toArray⟩) := by
  unfold Row at h
  simp [World.cell?, h, hi]
theorem Row.free {w : World} {b : Nat} {l : List Str} (h : Row w b l) (i : Nat) : w.frozen? ⟨b, i, none⟩ = false := by
  unfold Row at h
  simp [World.frozen?, h]
theorem Row.reads {w : World} {b : Nat} {l : List Str} (h : Row w b l) (o n : Nat) : Reads w b o ((l.drop o).take n) := fun j hj => by
  simp at hj
  rw [h.cell (o + j) (by omega)]
  simp
theorem Row.reads0 {w : World} {b : Nat} {l : List Str} (h : Row w b l) : Reads w b 0 l := fun j hj => by
  rw [h.cell (0 + j) (by omega)]
  simp
theorem Row.below {B : Nat} {w w' : World} {b : Nat} {l : List Str} (h : Row w b l) (hb : Below B w w') (hB : b < B) : Row w' b l := by
  unfold Row at h ⊢
  rw [hb.block b hB, h]
theorem Reads.below {B : Nat} {w w' : World} {b o : Nat} {l : List Str} (h : Reads w b o l) (hb : Below B w w') (hB : b < B) : Reads w' b o l := fun j hj => by
  rw [hb.cell (p := ⟨b, o + j, none⟩) hB]
  exact h j hj
theorem Row.drewN {w : World} {b : Nat} {l : List Str} (h : Row w b l) (q : Nat) : Row (w.drewN q) b l := h
theorem Row.drew {w : World} {b : Nat} {l : List Str} (h : Row w b l) : Row w.drew b l := h
theorem below_drewN {B : Nat} {a w : World} (h : Below B a w) (q : Nat) : Below B a (w.drewN q) := ⟨h.os, h.tape, h.output, h.size, h.block⟩
theorem Row.set {w : World} {b : Nat} {l : List Str} (h : Row w b l) (i : Nat) (s : Str) : Row (w.setCell ⟨b, i, none⟩ (.string ⟨s.toArray⟩)) b (l.set i s) := by
  unfold Row at h ⊢
  simp [World.setCell, Array.getElem?_modify, h, List.map_set]
theorem Row.inj {w : World} {b : Nat} {l m : List Str} (h : Row w b l) (h' : Row w b m) : l = m := by
  unfold Row at h h'
  rw [h] at h'
  injection h' with h'
  injection h' with h'
  have := congrArg Array.toList h'
  simp at this
  exact (List.map_inj_right (fun x y e => by simpa [encStr] using e)).1 this

theorem cellsOf9 : (Yba.prog.info? 9).map (·.size) = some 1 := by kernel_rfl

theorem zeros_list (n : Nat) : (Builtin.zeroCells #[Value.string ⟨#[]⟩] n).toList = (List.replicate n ([] : Str)).map encStr := by
  apply List.ext_getElem
  · simp [Builtin.zeroCells]
  · intro i h1 h2
    simp [Builtin.zeroCells, Nat.mod_one, encStr]

theorem one_enc (cs : List Str) : ∀ v ∈ cs.map encStr, v.oneCell' = true := by
  intro v hv
  obtain ⟨s, _, rfl⟩ := List.mem_map.1 hv
  rfl

theorem src_enc {w : World} {sb so : Nat} {cs : List Str} (h : Reads w sb so cs) : ∀ j v, (cs.map encStr)[j]? = some v → w.cell? ((⟨sb, so, none⟩ : Addr).add j) = some v := by
  intro j v hv
  rw [List.getElem?_map] at hv
  have hj : j < cs.length := by
    by_cases hj : j < cs.length
    · exact hj
    · rw [List.getElem?_eq_none (by omega)] at hv; simp at hv
  rw [List.getElem?_eq_getElem hj] at hv
  simp at hv
  subst hv
  have : (⟨sb, so, none⟩ : Addr).add j = ⟨sb, so + j, none⟩ := by unfold Addr.add; split <;> simp_all
  rw [this, h j hj]

section
variable {ops : Array Oper} {rest : List Oper} {o : Oper} {a : Act} {w : World} {Q : Exit → Act → World → Prop} {K : Act → World → Prop} {E : Prop}

theorem copy_row (hgd : o.guard = none) (d s : Operand) (ho : o.op = .call { callee := .builtin .copy, args := #[d, s], argTypes := #[22, 22] })
    (dp sp : Option Addr) (dLen dCap sLen sCap : Nat) (hd : a.eval d = .slice dp dLen dCap) (hs : a.eval s = .slice sp sLen sCap)
    (g off : Nat) (D : List Str) (hg : Row w g D) (cs : List Str) (hn : cs.length = Nat.min sLen dLen)
    (hpos : 0 < cs.length → dp = some ⟨g, off, none⟩ ∧ ∃ sb so, sp = some ⟨sb, so, none⟩ ∧ Reads w sb so cs)
    (hfit : off + cs.length ≤ D.length) (B : Nat) (w0 : World) (hb : Below B w0 w) (hBg : B ≤ g)
    (h : ∀ w', Hid (Row w' g (splice D off cs)) → Below B w0 w' → wpList Yba.prog ops Q rest (a.put o.dst (goInt cs.length)) w') :
    wpList Yba.prog ops Q (o :: rest) a w := by
  refine wpList_copy_splice hgd d s 22 22 ho 9 Yba.underlying22 cellsOf9 dp sp dLen dCap sLen sCap hd hs g off (D.map encStr) 9 hg (cs.map encStr) (by simpa using hn) (fun hp => ?_) (by simpa using hfit) (one_enc cs) B w0 hb hBg ?_
  · obtain ⟨h1, sb, so, h2, h3⟩ := hpos (by simpa using hp)
    exact ⟨h1, _, h2, src_enc h3⟩
  · intro w' h1 h2
    rw [List.length_map]
    exact h w' (show Row _ _ _ by unfold Row; rw [← splice_map]; exact h1.out) h2

theorem step_copy_row (hgd : o.guard = none) (d s : Operand) (ho : o.op = .call { callee := .builtin .copy, args := #[d, s], argTypes := #[22, 22] })
    (dp sp : Option Addr) (dLen dCap sLen sCap : Nat) (hd : a.eval d = .slice dp dLen dCap) (hs : a.eval s = .slice sp sLen sCap)
    (g off : Nat) (D : List Str) (hg : Row w g D) (cs : List Str) (hn : cs.length = Nat.min sLen dLen)
    (hpos : 0 < cs.length → dp = some ⟨g, off, none⟩ ∧ ∃ sb so, sp = some ⟨sb, so, none⟩ ∧ Reads w sb so cs)
    (hfit : off + cs.length ≤ D.length) (B : Nat) (w0 : World) (hb : Below B w0 w) (hBg : B ≤ g)
    (h : ∀ w', Hid (Row w' g (splice D off cs)) → Below B w0 w' → K (a.put o.dst (goInt cs.length)) w') :
    if Region.wanted o (yielded ops a.tmps) = true then Oper.wp Yba.prog o a w K Q else E := by
  refine step_copy_splice hgd d s 22 22 ho 9 Yba.underlying22 cellsOf9 dp sp dLen dCap sLen sCap hd hs g off (D.map encStr) 9 hg (cs.map encStr) (by simpa using hn) (fun hp => ?_) (by simpa using hfit) (one_enc cs) B w0 hb hBg ?_
  · obtain ⟨h1, sb, so, h2, h3⟩ := hpos (by simpa using hp)
    exact ⟨h1, _, h2, src_enc h3⟩
  · intro w' h1 h2
    rw [List.length_map]
    exact h w' (show Row _ _ _ by unfold Row; rw [← splice_map]; exact h1.out) h2

theorem run_clear (ty : TypeId) (dp : Option Addr) (n c : Nat)
    (g off : Nat) (D : List Str) (hg : Row w g D) (hpos : 0 < n → dp = some ⟨g, off, none⟩) (hfit : off + n ≤ D.length) (B : Nat) (w0 : World) (hb : Below B w0 w) (hBg : B ≤ g) :
    ∃ w', (Builtin.clear_ #[22] ty #[.slice dp n c]).run Yba.prog w = .ok (.tuple #[]) w' ∧ Hid (Row w' g (splice D off (List.replicate n []))) ∧ Hid (Below B w0 w') := by
  rcases Nat.eq_zero_or_pos n with h0 | hp
  · subst h0
    have hrun : (Builtin.clear_ #[22] ty #[.slice dp 0 c]).run Yba.prog w = .ok (.tuple #[]) w := by
      cases dp <;> simp [Builtin.clear_, run_underlying Yba.underlying22]
    exact ⟨w, hrun, (show Row _ _ _ by simpa [splice] using hg), hb⟩
  · obtain rfl := hpos hp
    have hst := run_storeCells_at Yba.prog g off 9 ((List.replicate n ([] : Str)).map encStr) 0 (D.map encStr).toArray w hg (by simpa using hfit) (one_enc _)
    have hrun : (Builtin.clear_ #[22] ty #[.slice (some ⟨g, off, none⟩) n c]).run Yba.prog w = .ok (.tuple #[]) (w.setRow g (splice (D.map encStr) off ((List.replicate n ([] : Str)).map encStr)).toArray) := by
      obtain ⟨m, rfl⟩ : ∃ m, n = m + 1 := ⟨n - 1, by omega⟩
      have hz : (Builtin.zeroCells (Value.string ⟨#[]⟩).cells (m + 1)).toList = (List.replicate (m + 1) ([] : Str)).map encStr := zeros_list (m + 1)
      simp [Builtin.clear_, run_underlying Yba.underlying22, Yba.zeroValue9]
      rw [hz, hst]
      simp [splice]
    exact ⟨_, hrun, (show Row _ _ _ by unfold Row; rw [← splice_map]; exact setRow_heap w g _ _ 9 _ hg), (show Below _ _ _ from below_setRow hb hBg _)⟩

theorem copy_at {dst : Option Tmp} {ty : TypeId} {pos : String} {after : Array Edge} (d s : Tmp)
    (dp sp : Option Addr) (dLen dCap sLen sCap : Nat) (hd : a.eval (.tmp d) = .slice dp dLen dCap) (hs : a.eval (.tmp s) = .slice sp sLen sCap)
    (g off : Nat) (D : List Str) (hg : Row w g D) (cs : List Str) (hn : cs.length = Nat.min sLen dLen)
    (hpos : 0 < cs.length → dp = some ⟨g, off, none⟩ ∧ ∃ sb so, sp = some ⟨sb, so, none⟩ ∧ Reads w sb so cs)
    (hfit : off + cs.length ≤ D.length) (B : Nat) (w0 : World) (hb : Below B w0 w) (hBg : B ≤ g)
    (h : ∀ w', Hid (Row w' g (splice D off cs)) → Below B w0 w' → wpList Yba.prog ops Q rest (a.put dst (goInt cs.length)) w') :
    wpList Yba.prog ops Q (Oper.mk dst (.call { callee := .builtin .copy, args := #[.tmp d, .tmp s], argTypes := #[22, 22] }) ty pos after none :: rest) a w :=
  copy_row rfl (.tmp d) (.tmp s) rfl dp sp dLen dCap sLen sCap hd hs g off D hg cs hn hpos hfit B w0 hb hBg h
end

theorem info9 : ∃ i, Yba.prog.info? 9 = some i ∧ i.zero = some (.string ⟨#[]⟩) ∧ i.size = 1 ∧ i.bytes = 16 := by
  have h1 : (Yba.prog.info? 9).map (·.zero) = some (some (.string ⟨#[]⟩)) := by kernel_rfl
  have h2 : (Yba.prog.info? 9).map (·.size) = some 1 := by kernel_rfl
  have h3 : (Yba.prog.info? 9).map (·.bytes) = some 16 := by kernel_rfl
  cases h : Yba.prog.info? 9 with
  | none => rw [h] at h1; simp at h1
  | some i => rw [h] at h1 h2 h3; exact ⟨i, rfl, by simpa using h1, by simpa using h2, by simpa using h3⟩

/-- slices.Grow. -/
theorem growRow (b l n c : Nat) (D : List Str) (w : World) (hD : Row w b D) (hDc : D.length = c) (hlc : l ≤ c) (hc : c ≤ 1048576) (hn : n ≤ 1048576) :
    Calls Yba.prog 12 #[.slice (some ⟨b, 0, none⟩) l c, .int .i64 n] w fun e w' =>
      ∃ b' c' D', e = .returned (.slice (some ⟨b', 0, none⟩) l c') ∧ Row w' b' D' ∧ D'.length = c' ∧ l + n ≤ c' ∧ c' ≤ 9223372036854775807 ∧ D'.take l = D.take l ∧ Below w.heap.size w w' ∧ (l + n ≤ c → b' = b) ∧ b ≤ b' := by
  by_cases hr : l + n ≤ c
  · refine (Any8.slices_Grow_room Yba.growS (some ⟨b, 0, none⟩) l c n w hlc (by omega) (by omega) hr).mono ?_
    rintro e w' ⟨rfl, rfl⟩
    exact ⟨b, c, D, rfl, hD, hDc, hr, by omega, rfl, Below.refl _ _, fun _ => rfl, Nat.le_refl _⟩
  · obtain ⟨i, hi, hz, hs, hby⟩ := info9
    refine (Any8.slices_Grow_grow Yba.growS i (.string ⟨#[]⟩) hi hz (by omega) (some ⟨b, 0, none⟩) l c n (D.map encStr) w hlc (by omega) (by rw [hby]; omega) (by omega) (by simp [hs, hDc]) (fun h => by cases h) (fun a ha j v hv => ?_)).mono ?_
    · cases ha
      exact src_enc hD.reads0 j v hv
    · rintro e w' ⟨rfl, rfl⟩
      have hge : l + n ≤ grownCap w (l + n) c 9 := grownCap_ge w _ _ _
      have hle : grownCap w (l + n) c 9 ≤ maxLen := grownCap_le_maxLen w (l + n) c 9 (by unfold maxLen; omega)
      unfold maxLen at hle
      have hlt := hD.lt
      refine ⟨w.heap.size, grownCap w (l + n) c 9, D ++ List.replicate (l + n - c) [] ++ List.replicate (grownCap w (l + n) c 9 - (l + n)) [], rfl, ?_, by simp; omega, hge, by omega, ?_, ?_, fun h => absurd h hr, by omega⟩
      · unfold Row
        show (w.drew.heap.push _)[w.heap.size]? = _
        rw [Array.getElem?_push, if_pos (by rfl)]
        have hz1 := fun n => zeros_list n
        have e : ∀ n, Builtin.zeroCells (Value.string ⟨#[]⟩).cells n = ((List.replicate n ([] : Str)).map encStr).toArray := fun n => by
          rw [← zeros_list n]; simp [Value.cells]
        show some (Obj.cells ((D.map encStr).toArray ++ Builtin.zeroCells (Value.string ⟨#[]⟩).cells (l + n - c) ++ Builtin.zeroCells (Value.string ⟨#[]⟩).cells (grownCap w (l + n) c 9 - (l + n))) 9 (0, 0)) = _
        rw [e, e]
        simp
      · rw [List.append_assoc, List.take_append_of_le_length (by omega)]
      · exact (Below.refl _ w).drew.alloc (Nat.le_refl _) _
end Go.Proofs.Ybulkaqlg

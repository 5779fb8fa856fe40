/-
  Plain facts on lists of strings in order: where a string goes in a sorted list; taking a sorted sublist out; laying a sorted list in from behind. No program.
-/
import Derived.Laws.CopyOwn
namespace Go.Proofs.Ybulkaqlg
open List

abbrev Str := List UInt8
def Srt (l : List Str) : Prop := l.Pairwise (· ≤ ·)

theorem str_le_trans {x y z : Str} (h : x ≤ y) (h2 : y ≤ z) : x ≤ z := List.le_trans h h2
theorem str_le_of_lt {x y : Str} (h : x < y) : x ≤ y := List.le_of_lt h

theorem srt_mergeSort (l : List Str) : Srt (l.mergeSort fun x y => decide (x ≤ y)) := by
  have h := pairwise_mergeSort (le := fun (x y : Str) => decide (x ≤ y)) (fun a b c h1 h2 => by
    simp only [decide_eq_true_eq] at h1 h2 ⊢; exact str_le_trans h1 h2) (fun a b => by
    simp only [Bool.or_eq_true, decide_eq_true_eq]; exact List.le_total a b) l
  exact h.imp fun h => by simpa using h

theorem eq_of_srt {l₁ l₂ : List Str} (h1 : Srt l₁) (h2 : Srt l₂) (h : l₁ ~ l₂) : l₁ = l₂ :=
  h.eq_of_pairwise (fun _ _ _ _ ha hb => List.le_antisymm ha hb) h1 h2

theorem eq_mergeSort {l m : List Str} (h1 : Srt l) (h : l ~ m) : l = m.mergeSort fun x y => decide (x ≤ y) :=
  eq_of_srt h1 (srt_mergeSort m) (h.trans (mergeSort_perm m _).symm)

/-- Where s goes in l. -/
def cut (l : List Str) (s : Str) : Nat := (l.takeWhile (fun x => decide (x < s))).length

theorem cut_le (l : List Str) (s : Str) : cut l s ≤ l.length := (takeWhile_sublist _).length_le

theorem cut_cons (x : Str) (l : List Str) (s : Str) : cut (x :: l) s = if x < s then cut l s + 1 else 0 := by
  unfold cut
  rw [takeWhile_cons]
  split <;> simp_all

theorem cut_below (l : List Str) (s : Str) : ∀ t (h : t < l.length), t < cut l s → l[t] < s := by
  induction l with
  | nil => intro t h; simp at h
  | cons x l ih =>
    intro t h hc
    rw [cut_cons] at hc
    split at hc
    · rename_i hx
      cases t with
      | zero => exact hx
      | succ t => exact ih t (by simpa using h) (by omega)
    · omega

theorem cut_above (l : List Str) (s : Str) (hl : Srt l) : ∀ t (h : t < l.length), cut l s ≤ t → s ≤ l[t] := by
  induction l with
  | nil => intro t h; simp at h
  | cons x l ih =>
    intro t h hc
    rw [cut_cons] at hc
    have hl' := List.pairwise_cons.1 hl
    split at hc
    · cases t with
      | zero => omega
      | succ t => exact ih hl'.2 t (by simpa using h) (by omega)
    · rename_i hx
      have hx' : s ≤ x := List.not_lt.1 hx
      cases t with
      | zero => exact hx'
      | succ t => exact str_le_trans hx' (hl'.1 _ (List.getElem_mem (by simpa using h)))

theorem cut_unique (l : List Str) (s : Str) (k : Nat) (hk : k ≤ l.length) (h1 : ∀ t (h : t < l.length), t < k → l[t] < s) (h2 : ∀ t (h : t < l.length), k ≤ t → ¬ l[t] < s) : cut l s = k := by
  induction l generalizing k with
  | nil => simp at hk; subst hk; rfl
  | cons x l ih =>
    rw [cut_cons]
    cases k with
    | zero => have := h2 0 (by simp) (Nat.le_refl _); simp at this; simp [this]
    | succ k =>
      have hx := h1 0 (by simp) (by omega)
      simp at hx
      rw [if_pos hx, ih k (by simpa using hk) (fun t h hk => h1 (t + 1) (by simpa using h) (by omega)) (fun t h hk => h2 (t + 1) (by simpa using h) (by omega))]

theorem takeWhile_eq_take {α : Type} (p : α → Bool) (l : List α) : l.takeWhile p = l.take (l.takeWhile p).length := by
  induction l with
  | nil => rfl
  | cons x l ih =>
    rw [takeWhile_cons]
    split
    · simp only [length_cons, take_succ_cons]; rw [← ih]
    · rfl

theorem take_cut_lt (l : List Str) (s : Str) : ∀ x ∈ l.take (cut l s), x < s := by
  intro x hx
  obtain ⟨t, ht, rfl⟩ := List.mem_iff_getElem.1 hx
  rw [List.getElem_take]
  simp at ht
  exact cut_below l s t (by omega) (by omega)

theorem drop_cut_le (l : List Str) (s : Str) (hl : Srt l) : ∀ x ∈ l.drop (cut l s), s ≤ x := by
  intro x hx
  obtain ⟨t, ht, rfl⟩ := List.mem_iff_getElem.1 hx
  rw [List.getElem_drop]
  simp at ht
  exact cut_above l s hl _ (by omega) (by omega)

/-- One name goes out. -/
theorem gone_step {Y G : List Str} {s : Str} (hY : Srt Y) (hs : (s :: G) <+ Y) :
    cut Y s < Y.length ∧ Y = Y.take (cut Y s) ++ s :: Y.drop (cut Y s + 1) ∧ G <+ Y.drop (cut Y s + 1) := by
  have e : Y.take (cut Y s) ++ Y.drop (cut Y s) = Y := List.take_append_drop _ _
  rw [← e] at hs
  obtain ⟨l1, l2, h12, s1, s2⟩ := sublist_append_iff.1 hs
  have hl1 : l1 = [] := by
    cases l1 with
    | nil => rfl
    | cons a l =>
      simp at h12
      have := s1.subset (List.mem_cons_self ..)
      rw [← h12.1] at this
      exact absurd (take_cut_lt Y s s this) (List.lt_irrefl s)
  subst hl1
  simp at h12
  subst h12
  have hlen : cut Y s < Y.length := by
    have := s2.length_le
    simp at this
    omega
  have hd : Y.drop (cut Y s) = Y[cut Y s] :: Y.drop (cut Y s + 1) := List.drop_eq_getElem_cons hlen
  rw [hd] at s2
  have hle := cut_above Y s hY _ hlen (Nat.le_refl _)
  have hp : Srt (Y.drop (cut Y s)) := hY.sublist (List.drop_sublist _ _)
  rw [hd] at hp
  have hp' := List.pairwise_cons.1 hp
  have hy : Y[cut Y s] = s ∧ G <+ Y.drop (cut Y s + 1) := by
    generalize Y[cut Y s] = y at s2 hle hp'
    cases s2 with
    | cons _ h =>
      have hm := h.subset (List.mem_cons_self ..)
      exact ⟨List.le_antisymm (hp'.1 _ hm) hle, (List.sublist_cons_self _ _).trans h⟩
    | cons_cons _ h => exact ⟨rfl, h⟩
  refine ⟨hlen, ?_, hy.2⟩
  conv => lhs; rw [← e, hd, hy.1]

/-- The names taken out so far: K kept, Y still to come, g gone. -/
def Out (X K Y g G : List Str) : Prop := (K ++ Y) <+ X ∧ (K ++ Y) ++ g ~ X ∧ G <+ Y
theorem Out.start {X G : List Str} (h : G <+ X) : Out X [] X [] G := ⟨by simp, by simp, h⟩
theorem Out.step {X K Y g G : List Str} {s : Str} (hX : Srt X) (h : Out X K Y g (s :: G)) :
    cut Y s < Y.length ∧ Out X (K ++ Y.take (cut Y s)) (Y.drop (cut Y s + 1)) (g ++ [s]) G := by
  obtain ⟨h1, h2, h3⟩ := h
  have hY : Srt Y := hX.sublist ((List.sublist_append_right K Y).trans h1)
  obtain ⟨a, b, c⟩ := gone_step hY h3
  refine ⟨a, ?_, ?_, c⟩
  · refine List.Sublist.trans ?_ h1
    rw [List.append_assoc]
    refine List.Sublist.append (List.Sublist.refl K) ?_
    conv => rhs; rw [b]
    exact List.Sublist.append (List.Sublist.refl _) (List.sublist_cons_self _ _)
  · refine List.Perm.trans ?_ h2
    have e1 : (K ++ Y) ++ g = (K ++ Y.take (cut Y s)) ++ (s :: (Y.drop (cut Y s + 1) ++ g)) := by
      conv => lhs; rw [b]
      simp
    rw [e1]
    have e2 : K ++ Y.take (cut Y s) ++ Y.drop (cut Y s + 1) ++ (g ++ [s]) = (K ++ Y.take (cut Y s)) ++ ((Y.drop (cut Y s + 1) ++ g) ++ [s]) := by simp
    rw [e2]
    exact List.Perm.append_left _ (List.perm_append_singleton s _)
theorem Out.done {X K Y g : List Str} (hX : Srt X) (h : Out X K Y g []) : Srt (K ++ Y) ∧ (K ++ Y) ++ g ~ X := ⟨hX.sublist h.1, h.2.1⟩

/-- Laid in so far, from behind: T. -/
def In (R C T : List Str) (n j : Nat) : Prop :=
  Srt T ∧ T ~ R.drop n ++ C.drop j ∧ (∀ r ∈ R.take n, ∀ t ∈ T, r ≤ t) ∧ (∀ x ∈ C.take j, ∀ t ∈ T, x ≤ t)
theorem In.start (R C : List Str) : In R C [] R.length C.length := ⟨List.Pairwise.nil, by simp, by simp, by simp⟩
theorem In.step {R C T : List Str} {n j : Nat} (hR : Srt R) (hC : Srt C) (hj : j < C.length) (hn : n ≤ R.length) (h : In R C T n (j + 1)) :
    In R C (C[j] :: ((R.take n).drop (cut (R.take n) C[j]) ++ T)) (cut (R.take n) C[j]) j := by
  obtain ⟨h1, h2, h3, h4⟩ := h
  have hRn : Srt (R.take n) := hR.sublist (List.take_sublist _ _)
  obtain ⟨i, hi⟩ : ∃ i, cut (R.take n) C[j] = i := ⟨_, rfl⟩
  have hbel := take_cut_lt (R.take n) C[j]
  have habv := drop_cut_le (R.take n) C[j] hRn
  have hile : i ≤ n := by have := cut_le (R.take n) C[j]; rw [hi] at this; simp at this; omega
  rw [hi] at hbel habv ⊢
  have hcT : ∀ t ∈ T, C[j] ≤ t := h4 _ (by
    rw [List.mem_iff_getElem]; exact ⟨j, by simp; omega, by simp⟩)
  have hQT : ∀ r ∈ (R.take n).drop i, ∀ t ∈ T, r ≤ t := fun r hr => h3 r (List.mem_of_mem_drop hr)
  have hti : R.take i = (R.take n).take i := by rw [List.take_take]; congr 1; omega
  refine ⟨?_, ?_, ?_, ?_⟩
  · refine List.pairwise_cons.2 ⟨fun t ht => ?_, List.pairwise_append.2 ⟨hRn.sublist (List.drop_sublist _ _), h1, hQT⟩⟩
    rcases List.mem_append.1 ht with h | h
    · exact habv t h
    · exact hcT t h
  · have e1 : R.drop i = (R.take n).drop i ++ R.drop n := by
      conv => lhs; rw [← List.take_append_drop n R]
      rw [List.drop_append_of_le_length (by simp; omega)]
    have e2 : C.drop j = C[j] :: C.drop (j + 1) := List.drop_eq_getElem_cons hj
    rw [e1, e2]
    refine List.Perm.trans ?_ (List.perm_middle).symm
    refine List.Perm.cons _ ?_
    rw [List.append_assoc]
    exact List.Perm.append_left _ h2
  · intro r hr t ht
    rw [hti] at hr
    have hrn : r ∈ R.take n := List.mem_of_mem_take hr
    rcases List.mem_cons.1 ht with rfl | ht
    · exact str_le_of_lt (hbel r hr)
    · rcases List.mem_append.1 ht with h | h
      · exact str_le_trans (str_le_of_lt (hbel r hr)) (habv t h)
      · exact h3 r hrn t h
  · intro x hx t ht
    have hx' : x ∈ C.take (j + 1) := by
      rw [List.take_succ_eq_append_getElem hj]; exact List.mem_append_left _ hx
    have hxc : x ≤ C[j] := by
      have hs : Srt (C.take (j + 1)) := hC.sublist (List.take_sublist _ _)
      rw [List.take_succ_eq_append_getElem hj] at hs
      exact (List.pairwise_append.1 hs).2.2 x hx _ (by simp)
    rcases List.mem_cons.1 ht with rfl | ht
    · exact hxc
    · rcases List.mem_append.1 ht with h | h
      · exact str_le_trans hxc (habv t h)
      · exact h4 x hx' t h
theorem In.done {R C T : List Str} {n : Nat} (hR : Srt R) (h : In R C T n 0) : R.take n ++ T = (R ++ C).mergeSort fun x y => decide (x ≤ y) := by
  obtain ⟨h1, h2, h3, h4⟩ := h
  refine eq_mergeSort (List.pairwise_append.2 ⟨hR.sublist (List.take_sublist _ _), h1, h3⟩) ?_
  refine (List.Perm.append_left _ h2).trans ?_
  simp only [List.drop_zero]
  rw [← List.append_assoc, List.take_append_drop]
theorem In.length {R C T : List Str} {n j : Nat} (h : In R C T n j) : T.length = (R.length - n) + (C.length - j) := by
  have := h.2.1.length_eq; simpa using this

/-- The copy up. -/
theorem splice_up (P Q U E : List Str) (u : Nat) (hu : U.length = u) : splice (P ++ (Q ++ (U ++ E))) (P.length + u) Q = P ++ ((Q ++ U).take u ++ (Q ++ E)) := by
  unfold splice
  have e1 : (P ++ (Q ++ (U ++ E))).take (P.length + u) = P ++ (Q ++ U).take u := by
    rw [List.take_append, List.take_of_length_le (by omega), show P.length + u - P.length = u by omega, ← List.append_assoc, List.take_append_of_le_length (by simp; omega)]
  have e2 : (P ++ (Q ++ (U ++ E))).drop (P.length + u + Q.length) = E := by
    have : P ++ (Q ++ (U ++ E)) = (P ++ (Q ++ U)) ++ E := by simp
    rw [this, List.drop_append, List.drop_eq_nil_of_le (by simp; omega), show P.length + u + Q.length - (P ++ (Q ++ U)).length = 0 by simp; omega]
    simp
  rw [e1, e2]; simp
theorem set_last (P V E : List Str) (j : Nat) (c : Str) (hV : V.length = j + 1) : (P ++ (V ++ E)).set (P.length + j) c = P ++ (V.take j ++ (c :: E)) := by
  rw [List.set_append_right _ _ (by omega), show P.length + j - P.length = j by omega, List.set_append_left _ _ (by omega)]
  congr 1
  rw [List.set_eq_take_append_cons_drop, if_pos (by omega), List.drop_eq_nil_of_le (by omega)]
  simp

theorem splice_map {α β : Type} (f : α → β) (L : List α) (o : Nat) (cs : List α) : splice (L.map f) o (cs.map f) = (splice L o cs).map f := by
  simp [splice, List.map_take, List.map_drop]

end Go.Proofs.Ybulkaqlg

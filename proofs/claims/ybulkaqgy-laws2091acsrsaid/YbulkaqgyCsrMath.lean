/-
  Plain facts on counting sort of edges by their source (LawS2091ACsr): no Go in sight.
-/
namespace Go.Proofs.Ybulkaqgy.Csr

/-- how many edges leave u -/
def cntEq (es : List (Nat × Int)) (u : Nat) : Nat := es.countP fun e => e.1 == u
/-- how many edges leave a node below u -/
def cntLt (es : List (Nat × Int)) (u : Nat) : Nat := es.countP fun e => decide (e.1 < u)
def fr (es : List (Nat × Int)) (i : Nat) : Nat := (es.getD i (0, 0)).1
def tg (es : List (Nat × Int)) (i : Nat) : Int := (es.getD i (0, 0)).2
/-- where edge i's target stands in succ -/
def pos (es : List (Nat × Int)) (i : Nat) : Nat := cntLt es (fr es i) + cntEq (es.take i) (fr es i)

theorem cntLt_succ (es : List (Nat × Int)) (u : Nat) : cntLt es (u + 1) = cntLt es u + cntEq es u := by
  induction es with
  | nil => rfl
  | cons e es ih =>
    unfold cntLt cntEq at *
    simp only [List.countP_cons, ih]
    by_cases h1 : e.1 < u
    · have h2 : ¬ e.1 = u := by omega
      have h3 : e.1 < u + 1 := by omega
      simp [h1, h2, h3]; omega
    · by_cases h2 : e.1 = u
      · simp [h2]; omega
      · have h3 : ¬ e.1 < u + 1 := by omega
        simp [h1, h2, h3]

theorem cntLt_zero (es : List (Nat × Int)) : cntLt es 0 = 0 := by simp [cntLt]

theorem cntLt_all (es : List (Nat × Int)) (n : Nat) (h : ∀ i, i < es.length → fr es i < n) : cntLt es n = es.length := by
  unfold cntLt
  rw [List.countP_eq_length]
  intro e he
  obtain ⟨i, hi, rfl⟩ := List.getElem_of_mem he
  have := h i hi
  simp only [fr, List.getD_eq_getElem?_getD, List.getElem?_eq_getElem hi, Option.getD_some] at this
  simpa using this

theorem cntLt_le (es : List (Nat × Int)) (u : Nat) : cntLt es u ≤ es.length := List.countP_le_length

theorem cntLt_mono (es : List (Nat × Int)) {u v : Nat} (h : u ≤ v) : cntLt es u ≤ cntLt es v := by
  induction h with
  | refl => exact Nat.le_refl _
  | step _ ih => rw [cntLt_succ]; omega

theorem cntEq_le (es : List (Nat × Int)) (u : Nat) : cntEq es u ≤ es.length := List.countP_le_length

theorem cntEq_take_le (es : List (Nat × Int)) (k u : Nat) : cntEq (es.take k) u ≤ cntEq es u :=
  List.Sublist.countP_le (List.take_sublist _ _)

theorem cntEq_take_zero (es : List (Nat × Int)) (u : Nat) : cntEq (es.take 0) u = 0 := by simp [cntEq]

theorem cntEq_take_all (es : List (Nat × Int)) (u : Nat) : cntEq (es.take es.length) u = cntEq es u := by rw [List.take_length]

theorem cntEq_take_succ (es : List (Nat × Int)) (k u : Nat) (hk : k < es.length) :
    cntEq (es.take (k + 1)) u = cntEq (es.take k) u + if fr es k = u then 1 else 0 := by
  unfold cntEq
  rw [List.take_succ_eq_append_getElem hk, List.countP_append, List.countP_singleton]
  congr 1
  simp [fr, List.getElem?_eq_getElem hk]

theorem cntEq_take_mono (es : List (Nat × Int)) (u : Nat) {i k : Nat} (h : i ≤ k) : cntEq (es.take i) u ≤ cntEq (es.take k) u := by
  have : (es.take i) = (es.take k).take i := by rw [List.take_take, Nat.min_eq_left h]
  rw [this]
  exact List.Sublist.countP_le (List.take_sublist _ _)

theorem cntEq_take_lt (es : List (Nat × Int)) (i : Nat) (hi : i < es.length) : cntEq (es.take i) (fr es i) < cntEq es (fr es i) := by
  have h := cntEq_take_succ es i (fr es i) hi
  rw [if_pos rfl] at h
  have h2 := cntEq_take_le es (i + 1) (fr es i)
  omega

theorem pos_lt_next (es : List (Nat × Int)) (i : Nat) (hi : i < es.length) : pos es i < cntLt es (fr es i + 1) := by
  rw [cntLt_succ]
  have := cntEq_take_lt es i hi
  unfold pos; omega

theorem pos_lt (es : List (Nat × Int)) (i : Nat) (hi : i < es.length) : pos es i < es.length :=
  Nat.lt_of_lt_of_le (pos_lt_next es i hi) (cntLt_le _ _)

theorem pos_inj (es : List (Nat × Int)) (i k : Nat) (hik : i < k) (hk : k < es.length) : pos es i ≠ pos es k := by
  rcases Nat.lt_trichotomy (fr es i) (fr es k) with h | h | h
  · have h1 := pos_lt_next es i (by omega)
    have h2 := cntLt_mono es (u := fr es i + 1) (v := fr es k) (by omega)
    unfold pos at *; omega
  · have h1 := cntEq_take_succ es i (fr es i) (by omega)
    rw [if_pos rfl] at h1
    have h2 := cntEq_take_mono es (fr es i) (i := i + 1) (k := k) (by omega)
    unfold pos
    rw [← h]; omega
  · have h1 := pos_lt_next es k hk
    have h2 := cntLt_mono es (u := fr es k + 1) (v := fr es i) (by omega)
    unfold pos at *; omega

end Go.Proofs.Ybulkaqgy.Csr

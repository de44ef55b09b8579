/- Plain facts on compacting. -/
import Derived.Test.YtgmnonijhgipbaaCmp
namespace Go.Proofs.Ytgmnonijhgipbaa

theorem eqC_refl (tb : List Int) (x : Int) : eqC tb x x = true := by simp [eqC]
theorem cmpTo_pos (eq : Int → Int → Bool) (xs : List Int) (j : Nat) (h : 0 < j) : 0 < (cmpTo eq xs j).length := by
  induction j with
  | zero => omega
  | succ j ih =>
    by_cases hj : j = 0
    · rw [cmpTo_keep (.inl hj)]; simp
    · have := ih (by omega)
      simp only [cmpTo]; split
      · simp
      · exact this
theorem cmpTo_zero_iff (eq : Int → Int → Bool) (xs : List Int) (n : Nat) : (n = 0) = ((cmpTo eq xs n).length = 0) := by
  apply propext
  constructor
  · rintro rfl; rfl
  · intro h
    by_cases hn : 0 < n
    · have := cmpTo_pos eq xs n hn; omega
    · omega
theorem zero_test (n m : Nat) (h : (n = 0) = (m = 0)) : (((n : Int) == 0) == ((m : Int) == 0)) = true := by
  have e1 : ((n : Int) == 0) = decide (n = 0) := by rw [Bool.eq_iff_iff]; simp
  have e2 : ((m : Int) == 0) = decide (m = 0) := by rw [Bool.eq_iff_iff]; simp
  rw [e1, e2]
  simp [h]
theorem cmpTo_sub (eq : Int → Int → Bool) (xs : List Int) (j : Nat) (h : j ≤ xs.length) : (cmpTo eq xs j).Sublist (xs.take j) := by
  induction j with
  | zero => simp [cmpTo]
  | succ j ih =>
    have := ih (by omega)
    rw [← take_getD (by omega)]
    simp only [cmpTo]; split
    · exact this.append (List.Sublist.refl _)
    · exact this.trans (List.sublist_append_left _ _)
theorem cmpTo_mem (eq : Int → Int → Bool) (xs : List Int) (j : Nat) (h : j ≤ xs.length) {x : Int} (hx : x ∈ cmpTo eq xs j) : x ∈ xs :=
  List.mem_of_mem_take ((cmpTo_sub eq xs j h).subset hx)
/-- The last one that is kept is of the class of the last one. -/
theorem cmpTo_last (tb xs : List Int) (j : Nat) : ∃ l y, cmpTo (eqC tb) xs (j + 1) = l ++ [y] ∧ classI tb y = classI tb (xs.getD j 0) := by
  induction j with
  | zero => exact ⟨[], xs.getD 0 0, by rw [cmpTo_keep (.inl rfl)]; simp [cmpTo], rfl⟩
  | succ j ih =>
    obtain ⟨l, y, e, hy⟩ := ih
    by_cases h : j + 1 = 0 ∨ eqC tb (xs.getD (j + 1) 0) (xs.getD (j + 1 - 1) 0) = false
    · exact ⟨cmpTo (eqC tb) xs (j + 1), xs.getD (j + 1) 0, cmpTo_keep h, rfl⟩
    · refine ⟨l, y, by rw [cmpTo_skip h]; exact e, ?_⟩
      have : eqC tb (xs.getD (j + 1) 0) (xs.getD j 0) = true := by
        cases hq : eqC tb (xs.getD (j + 1) 0) (xs.getD j 0)
        · exact absurd (.inr hq) h
        · rfl
      rw [hy]
      simp only [eqC, beq_iff_eq] at this
      exact this.symm
/-- No two neighbours are equal. -/
def NoAdj (eq : Int → Int → Bool) (ys : List Int) : Prop := ∀ i, 0 < i → i < ys.length → eq (ys.getD i 0) (ys.getD (i - 1) 0) = false
theorem noAdj_snoc {tb l : List Int} {y x : Int} (h : NoAdj (eqC tb) (l ++ [y])) (hx : eqC tb x y = false) : NoAdj (eqC tb) (l ++ [y] ++ [x]) := by
  intro i hi hlt
  simp only [List.length_append, List.length_cons, List.length_nil] at hlt
  by_cases hl : i = l.length + 1
  · subst hl
    simp only [List.getD_eq_getElem?_getD]
    rw [List.getElem?_append_right (by simp), List.getElem?_append_left (by simp), List.getElem?_append_right (by simp)]
    simpa using hx
  · have := h i hi (by simp; omega)
    simp only [List.getD_eq_getElem?_getD] at this ⊢
    rw [List.getElem?_append_left (l₁ := l ++ [y]) (by simp; omega), List.getElem?_append_left (l₁ := l ++ [y]) (i := i - 1) (by simp only [List.length_append, List.length_cons, List.length_nil]; omega)]
    exact this
theorem cmpTo_noAdj (tb xs : List Int) (j : Nat) : NoAdj (eqC tb) (cmpTo (eqC tb) xs j) := by
  induction j with
  | zero => intro i hi hlt; simp [cmpTo] at hlt
  | succ j ih =>
    by_cases h : j = 0 ∨ eqC tb (xs.getD j 0) (xs.getD (j - 1) 0) = false
    · rw [cmpTo_keep h]
      by_cases hj : j = 0
      · subst hj; intro i hi hlt; simp [cmpTo] at hlt; omega
      · obtain ⟨k, rfl⟩ : ∃ k, j = k + 1 := ⟨j - 1, by omega⟩
        obtain ⟨l, y, e, hy⟩ := cmpTo_last tb xs k
        rw [e] at ih ⊢
        refine noAdj_snoc ih ?_
        rcases h with h | h
        · omega
        · simp only [eqC] at h ⊢
          rw [hy]
          exact h
    · rw [cmpTo_skip h]; exact ih
theorem cmpTo_of_noAdj {eq : Int → Int → Bool} {ys : List Int} (h : NoAdj eq ys) : ∀ j, j ≤ ys.length → cmpTo eq ys j = ys.take j := by
  intro j
  induction j with
  | zero => intro _; simp [cmpTo]
  | succ j ih =>
    intro hj
    refine cmpTo_all (by omega) (ih (by omega)) ?_
    by_cases h0 : j = 0
    · exact .inl h0
    · exact .inr (h j (by omega) (by omega))
theorem cmpTo_twice (tb xs : List Int) (n : Nat) : cmpTo (eqC tb) (cmpTo (eqC tb) xs n) (cmpTo (eqC tb) xs n).length = cmpTo (eqC tb) xs n := by
  rw [cmpTo_of_noAdj (cmpTo_noAdj tb xs n) _ (Nat.le_refl _), List.take_length]

/-- Each one twice. -/
def dbl : List Int → List Int
  | [] => []
  | x :: l => x :: x :: dbl l
theorem dbl_snoc (l : List Int) (x : Int) : dbl (l ++ [x]) = dbl l ++ [x, x] := by
  induction l with
  | nil => rfl
  | cons y l ih => simp [dbl, ih]
theorem dbl_length (l : List Int) : (dbl l).length = 2 * l.length := by
  induction l with
  | nil => rfl
  | cons y l ih => simp [dbl, ih]; omega
theorem dbl_get (l : List Int) (j : Nat) : (dbl l).getD (2 * j) 0 = l.getD j 0 ∧ (dbl l).getD (2 * j + 1) 0 = l.getD j 0 := by
  induction l generalizing j with
  | nil => simp [dbl]
  | cons y l ih =>
    cases j with
    | zero => simp [dbl]
    | succ j =>
      have := ih j
      rw [show 2 * (j + 1) = 2 * j + 1 + 1 by omega]
      simpa [dbl] using this
theorem dbl_mem {l : List Int} {x : Int} (h : x ∈ dbl l) : x ∈ l := by
  induction l with
  | nil => simp [dbl] at h
  | cons y l ih =>
    simp only [dbl, List.mem_cons] at h ⊢
    rcases h with h | h | h
    · exact .inl h
    · exact .inl h
    · exact .inr (ih h)
theorem cmpTo_dbl (tb xs : List Int) (j : Nat) : cmpTo (eqC tb) (dbl xs) (2 * j) = cmpTo (eqC tb) xs j := by
  induction j with
  | zero => rfl
  | succ j ih =>
    have g := dbl_get xs j
    rw [show 2 * (j + 1) = 2 * j + 1 + 1 by omega]
    rw [cmpTo_skip (j := 2 * j + 1) (by rw [Nat.add_sub_cancel, g.1, g.2, eqC_refl]; simp)]
    by_cases h : j = 0 ∨ eqC tb (xs.getD j 0) (xs.getD (j - 1) 0) = false
    · rw [cmpTo_keep h, cmpTo_keep (j := 2 * j), ih, g.1]
      rcases h with h | h
      · exact .inl (by omega)
      · by_cases h0 : j = 0
        · exact .inl (by omega)
        · have g2 := dbl_get xs (j - 1)
          rw [show 2 * (j - 1) + 1 = 2 * j - 1 by omega] at g2
          exact .inr (by rw [g.1, g2.2]; exact h)
    · rw [cmpTo_skip h, cmpTo_skip (j := 2 * j), ih]
      intro hq
      apply h
      rcases hq with hq | hq
      · exact .inl (by omega)
      · by_cases h0 : j = 0
        · exact .inl h0
        · have g2 := dbl_get xs (j - 1)
          rw [show 2 * (j - 1) + 1 = 2 * j - 1 by omega] at g2
          exact .inr (by rw [g.1, g2.2] at hq; exact hq)

/-- What is left of a when the elements of b were taken in turn. -/
def gm (a : List Int) : List Int → List Int
  | [] => a
  | y :: b => match a with
    | [] => []
    | x :: r => if x = y then gm r b else gm (x :: r) b
theorem gm_nil (b : List Int) : gm [] b = [] := by cases b <;> rfl
theorem gm_snoc (a b : List Int) (y : Int) : gm a (b ++ [y]) = (match gm a b with | [] => [] | x :: r => if x = y then r else x :: r) := by
  induction b generalizing a with
  | nil => cases a with
    | nil => rfl
    | cons x r => simp only [List.nil_append, gm]
  | cons z b ih =>
    cases a with
    | nil => simp [gm]
    | cons x r =>
      simp only [List.cons_append, gm]
      split
      · exact ih r
      · exact ih (x :: r)
theorem gm_sub {a b : List Int} (h : a.Sublist b) : gm a b = [] := by
  induction b generalizing a with
  | nil => have := List.sublist_nil.1 h; subst this; rfl
  | cons y b ih =>
    cases a with
    | nil => rfl
    | cons x r =>
      simp only [gm]
      split
      · rename_i e
        subst e
        exact ih (List.cons_sublist_cons.1 h)
      · rename_i e
        refine ih ?_
        cases h with
        | cons _ h => exact h
        | cons_cons _ h => exact absurd rfl e

end Go.Proofs.Ytgmnonijhgipbaa

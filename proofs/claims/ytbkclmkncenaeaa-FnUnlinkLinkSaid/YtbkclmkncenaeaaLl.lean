/- What linking makes of the lists of elements. Plain. -/
import Derived.Test.YtbkclmkncenaeaaUnl
namespace Go.Proofs.Ytbkclmkncenaeaa
open Go.RowKit
open Go.Proofs.Ytbkclmkncenaeaa.Rm
set_option linter.unusedVariables false

theorem Rm.Rep.from_of_mem {N : Nat} {f : Nat → Nat} {t : List (List Nat)} (h : Rep N f t) {x : Nat} {r : List Nat} (hl : x :: r ∈ t) : from' t x = x :: r := by
  obtain ⟨y, hy⟩ := h.ring _ hl
  have hm : x ∈ x :: r := by simp
  have h1 := turn_ring hy hm
  have e : turn (x :: r) x = x :: r := by simp [turn]
  rw [e] at h1
  exact (h.from_ring (h.lt _ hl x hm)).unique h1
theorem Rm.Rep.from_len_mem {N : Nat} {f : Nat → Nat} {t : List (List Nat)} (h : Rep N f t) {x y : Nat} (hx : x < N) (hy : y ∈ from' t x) : (from' t y).length = (from' t x).length := by
  have r := h.from_ring hx
  have := (turn_ring r hy).unique (h.from_ring (h.from_lt hx hy))
  rw [← this, turn_length]
/-- Two rings: all elements of both. -/
theorem Rm.Rep.link_out {N : Nat} {nx pv : Nat → Nat} {t : List (List Nat)} (hR : Rep N nx t) (hI : Inv N nx pv) {i j : Nat} (hi : i < N) (hj : j < N) (hn : j ∉ from' t i) :
    from' (Rm.link t i j) i = i :: (from' t j ++ (from' t i).tail) ∧ (from' (Rm.link t i j) (nx i)).length = (from' (Rm.link t i j) i).length := by
  have h2 := hR.link hI hi hj
  have hm : i :: (from' t j ++ (from' t i).tail) ∈ Rm.link t i j := by unfold Rm.link; rw [if_neg hn]; simp
  have e := h2.from_of_mem hm
  refine ⟨e, h2.from_len_mem hi ?_⟩
  rw [e]
  have r := hR.from_ring hi
  have hx := r.next_mem r.mem
  obtain ⟨m, em, _, _⟩ := r.cons
  rw [em] at hx ⊢
  simp at hx ⊢
  rcases hx with hx | hx
  · exact .inl hx
  · exact .inr (.inr hx)
/-- One ring, parted: where the second element is. -/
def cutK (t : List (List Nat)) (i j : Nat) : Nat := if i = j then (from' t i).length else (from' t i).idxOf j
theorem Rm.Rep.cutK_pos {N : Nat} {nx : Nat → Nat} {t : List (List Nat)} (hR : Rep N nx t) {i j : Nat} (hi : i < N) (hn : j ∈ from' t i) : 1 ≤ cutK t i j ∧ cutK t i j ≤ (from' t i).length := by
  have r := hR.from_ring hi
  unfold cutK
  split
  · exact ⟨r.pos, Nat.le_refl _⟩
  · rename_i hij
    obtain ⟨m0, em, _, _⟩ := r.cons
    have h1 : (from' t i).idxOf j ≠ 0 := by rw [em, List.idxOf_cons, show (i == j) = false from beq_eq_false_iff_ne.2 hij]; simp
    have := List.idxOf_lt_length_iff.2 hn
    omega
theorem Rm.Rep.link_in {N : Nat} {nx pv : Nat → Nat} {t : List (List Nat)} (hR : Rep N nx t) (hI : Inv N nx pv) {i j : Nat} (hi : i < N) (hj : j < N) (hn : j ∈ from' t i) :
    from' (Rm.link t i j) i = i :: (from' t i).drop (cutK t i j) ∧ (cutK t i j = 1 → (from' (Rm.link t i j) (nx i)).length = (from' t i).length) ∧ (cutK t i j ≠ 1 → from' (Rm.link t i j) (nx i) = ((from' t i).take (cutK t i j)).drop 1) := by
  have h2 := hR.link hI hi hj
  have r := hR.from_ring hi
  obtain ⟨k1, k2⟩ := hR.cutK_pos hi hn
  have he : Rm.link t i j = others t i j ++ [i :: (from' t i).drop (cutK t i j)] ++ (if ((from' t i).take (cutK t i j)).drop 1 = [] then [] else [((from' t i).take (cutK t i j)).drop 1]) := by unfold Rm.link cutK; rw [if_pos hn]
  have hm : i :: (from' t i).drop (cutK t i j) ∈ Rm.link t i j := by rw [he]; simp
  have e := h2.from_of_mem hm
  refine ⟨e, fun h1 => ?_, fun h1 => ?_⟩
  · have hx := r.next_mem r.mem
    have em : from' (Rm.link t i j) i = from' t i := by
      rw [e, h1]
      obtain ⟨m, em, _, _⟩ := r.cons
      rw [em]; rfl
    rw [← em] at hx
    rw [h2.from_len_mem hi hx, em]
  · obtain ⟨m, em, p, _⟩ := r.cons
    have hl : (from' t i).length = m.length + 1 := by rw [em]; rfl
    obtain ⟨k, hk⟩ : ∃ k, cutK t i j = k + 2 := ⟨cutK t i j - 2, by omega⟩
    cases m with
    | nil => simp at hl; omega
    | cons y m =>
      have hy : y = nx i := p.1
      have ed : ((from' t i).take (cutK t i j)).drop 1 = nx i :: m.take k := by rw [em, hk, hy]; simp
      rw [ed]
      apply h2.from_of_mem
      rw [he, ed]
      simp
theorem mv_mod (t : List (List Nat)) (i : Nat) {a b : Int} (h : a % ((from' t i).length : Int) = b % ((from' t i).length : Int)) : mv t i a = mv t i b := by unfold mv; rw [h]

end Go.Proofs.Ytbkclmkncenaeaa

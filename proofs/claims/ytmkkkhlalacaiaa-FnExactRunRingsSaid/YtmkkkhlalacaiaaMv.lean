/- Moves on the reference's rings: plain laws. -/
import Derived.Test.YtmkkkhlalacaiaaSMove
namespace Go.Proofs.Ytmkkkhlalacaiaa
open Go.RowKit
open Go.Proofs.Ytmkkkhlalacaiaa.Rm
set_option linter.unusedVariables false

theorem Rm.Rep.mv_it {N : Nat} {nx : Nat → Nat} {t : List (List Nat)} (hR : Rep N nx t) {i : Nat} (hi : i < N) (z : Int) : mv t i z = it nx (z % ((from' t i).length : Int)).toNat i := by
  have r := hR.from_ring hi
  have hp := r.pos
  have h1 := Int.emod_nonneg z (show ((from' t i).length : Int) ≠ 0 by omega)
  have h2 := Int.emod_lt_of_pos z (show (0 : Int) < (from' t i).length by omega)
  unfold mv
  rw [List.getD_eq_getElem?_getD, r.path.get _ (by omega)]
  rfl
theorem Rm.Rep.from_it_len {N : Nat} {nx pv : Nat → Nat} {t : List (List Nat)} (hR : Rep N nx t) (hI : Inv N nx pv) {i : Nat} (hi : i < N) (k : Nat) : (from' t (it nx k i)).length = (from' t i).length := by
  have r := hR.from_ring hi
  have hm := r.it_mem k r.mem
  have := (turn_ring r hm).unique (hR.from_ring (hI.it_lt k hi))
  rw [← this, turn_length]
theorem Rm.Rep.mv_mv {N : Nat} {nx pv : Nat → Nat} {t : List (List Nat)} (hR : Rep N nx t) (hI : Inv N nx pv) {i : Nat} (hi : i < N) (a b : Int) : mv t (mv t i a) b = mv t i (a + b) := by
  have r := hR.from_ring hi
  have hp := r.pos
  rw [hR.mv_it hi a]
  have hk := hI.it_lt (a % ((from' t i).length : Int)).toNat hi
  have hl := hR.from_it_len hI hi (a % ((from' t i).length : Int)).toNat
  rw [hR.mv_it hk b, hR.mv_it hi (a + b), hl, ← it_add, r.it_mod]
  congr 1
  have h1 := Int.emod_nonneg a (show ((from' t i).length : Int) ≠ 0 by omega)
  have h2 := Int.emod_nonneg b (show ((from' t i).length : Int) ≠ 0 by omega)
  have e : ((a % ((from' t i).length : Int)).toNat + (b % ((from' t i).length : Int)).toNat : Nat) = (a % ((from' t i).length : Int) + b % ((from' t i).length : Int)).toNat := by omega
  rw [e, Int.add_emod a b]
  have h3 : 0 ≤ a % ((from' t i).length : Int) + b % ((from' t i).length : Int) := by omega
  generalize a % ((from' t i).length : Int) + b % ((from' t i).length : Int) = s at h3
  obtain ⟨S, rfl⟩ := Int.eq_ofNat_of_zero_le h3
  rw [Int.toNat_natCast, ← Int.natCast_emod, Int.toNat_natCast]
theorem Rm.Rep.mv_zero {N : Nat} {nx : Nat → Nat} {t : List (List Nat)} (hR : Rep N nx t) {i : Nat} (hi : i < N) : mv t i 0 = i := by
  rw [hR.mv_it hi]; simp [it]
theorem Rm.Rep.mv_len {N : Nat} {nx : Nat → Nat} {t : List (List Nat)} (hR : Rep N nx t) {i : Nat} (hi : i < N) : mv t i ((from' t i).length : Int) = i ∧ mv t i (-((from' t i).length : Int)) = i := by
  rw [hR.mv_it hi, hR.mv_it hi]; simp [it]
theorem Rm.Rep.from_get {N : Nat} {nx : Nat → Nat} {t : List (List Nat)} (hR : Rep N nx t) {i : Nat} (hi : i < N) {k : Nat} (hk : k < (from' t i).length) : (from' t i)[k]? = some (mv t i (k : Int)) := by
  have r := hR.from_ring hi
  rw [hR.mv_it hi, r.path.get k hk]
  have : ((k : Int) % ((from' t i).length : Int)).toNat = k := by
    rw [Int.emod_eq_of_lt (by omega) (by omega)]; rfl
  rw [this]

theorem mk_mv_mv (xs : List Int) {i : Nat} (hi : i < tot xs) (a b : Int) : mv (mk xs) (mv (mk xs) i a) b = mv (mk xs) i (a + b) := by
  obtain ⟨nx, pv, h1, h⟩ := rep_mk xs
  exact h.mv_mv h1 hi a b
theorem mk_mv_zero (xs : List Int) {i : Nat} (hi : i < tot xs) : mv (mk xs) i 0 = i := by
  obtain ⟨nx, pv, h1, h⟩ := rep_mk xs
  exact h.mv_zero hi
theorem mk_mv_len (xs : List Int) {i : Nat} (hi : i < tot xs) : mv (mk xs) i ((from' (mk xs) i).length : Int) = i ∧ mv (mk xs) i (-((from' (mk xs) i).length : Int)) = i := by
  obtain ⟨nx, pv, h1, h⟩ := rep_mk xs
  exact h.mv_len hi
theorem mk_from_get (xs : List Int) {i : Nat} (hi : i < tot xs) {k : Nat} (hk : k < (from' (mk xs) i).length) : (nats (from' (mk xs) i)).getD k 0 = (mv (mk xs) i (k : Int) : Nat) := by
  obtain ⟨nx, pv, h1, h⟩ := rep_mk xs
  rw [nats_getD _ _ hk]
  have := h.from_get hi hk
  rw [List.getElem?_eq_getElem hk] at this
  simp only [Option.some.injEq] at this
  rw [this]
/-- The next element's ring is the element's own, its first element last. -/
theorem Rm.Rep.from_next {N : Nat} {nx pv : Nat → Nat} {t : List (List Nat)} (hR : Rep N nx t) (hI : Inv N nx pv) {i : Nat} (hi : i < N) : from' t (nx i) = (from' t i).tail ++ [i] := by
  have r := hR.from_ring hi
  obtain ⟨m, em, p, n⟩ := r.cons
  have rn := hR.from_ring (hI.nlt i hi)
  rw [em] at r ⊢
  have r2 : Rm.Ring nx (nx i) (m ++ [i]) := by
    refine ⟨p.append ⟨rfl, rfl⟩, ?_, by simp⟩
    have := r.nodup
    rw [List.nodup_cons] at this
    rw [List.nodup_append]
    refine ⟨this.2, by simp, fun a ha b hb e => ?_⟩
    simp at hb
    subst hb; subst e
    exact this.1 ha
  exact rn.unique r2
theorem mk_from_next (xs : List Int) {i : Nat} (hi : i < tot xs) : from' (mk xs) (mv (mk xs) i 1) = (from' (mk xs) i).tail ++ [i] := by
  obtain ⟨nx, pv, h1, h⟩ := rep_mk xs
  rw [← h.next h1 hi]
  exact h.from_next h1 hi
theorem mk_from_nodup (xs : List Int) {i : Nat} (hi : i < tot xs) : (from' (mk xs) i).Nodup := by
  obtain ⟨nx, pv, h1, h⟩ := rep_mk xs
  exact (h.from_ring hi).nodup

end Go.Proofs.Ytmkkkhlalacaiaa

/- What Unlink makes of the reference's rings: it is Link with the element behind. Plain. -/
import Derived.Test.YtmkkkhlalacaiaaSLink
namespace Go.Proofs.Ytmkkkhlalacaiaa
open Go.RowKit
open Go.Proofs.Ytmkkkhlalacaiaa.Rm
set_option linter.unusedVariables false

theorem Rm.Rep.others_same {N : Nat} {nx : Nat → Nat} {t : List (List Nat)} (hR : Rep N nx t) {i j : Nat} (hi : i < N) (hj : j ∈ from' t i) : others t i j = others t i i := by
  unfold others
  apply List.filter_congr
  intro l hl
  have e : decide (i ∈ l) = decide (j ∈ l) := by
    by_cases h : i ∈ l
    · have := (hR.same hl h (hR.from_ring hi) j).2 hj
      simp [h, this]
    · have : j ∉ l := by
        intro q
        apply h
        have r := hR.from_ring hi
        exact (hR.same hl q (turn_ring r hj) i).2 (turn_mem.2 r.mem)
      simp [h, this]
  rw [← e]
/-- The element to which a move of z + 1 comes, and what linking with it makes. -/
theorem Rm.Rep.unlink_eq {N : Nat} {nx pv : Nat → Nat} {t : List (List Nat)} (hR : Rep N nx t) (hI : Inv N nx pv) {i : Nat} (hi : i < N) (z : Nat) (hz : z % (from' t i).length ≠ 0) :
    Rm.link t i (mv t i ((z : Int) + 1)) = others t i i ++ [i :: (from' t i).drop (z % (from' t i).length + 1)] ++ [((from' t i).take (z % (from' t i).length + 1)).drop 1] := by
  have r := hR.from_ring hi
  have hp := r.pos
  have hk := Nat.mod_lt z hp
  have em : mv t i ((z : Int) + 1) = it nx (z + 1) i := by
    rw [hR.mv_it hi, show ((z : Int) + 1) = ((z + 1 : Nat) : Int) from rfl, ← Int.natCast_emod, Int.toNat_natCast, ← r.it_mod]
  have hm : mv t i ((z : Int) + 1) ∈ from' t i := by rw [em]; exact r.it_mem _ r.mem
  have hne : ((from' t i).take (z % (from' t i).length + 1)).drop 1 ≠ [] := by
    intro q
    have := congrArg List.length q
    simp at this
    omega
  have ho := hR.others_same hi hm
  unfold Rm.link
  rw [if_pos hm]
  by_cases hlt : z % (from' t i).length + 1 < (from' t i).length
  · have hmod : (z + 1) % (from' t i).length = z % (from' t i).length + 1 := by
      rw [Nat.add_mod, Nat.mod_eq_of_lt (show 1 < (from' t i).length by omega)]; exact Nat.mod_eq_of_lt hlt
    have hg : (from' t i)[z % (from' t i).length + 1]? = some (mv t i ((z : Int) + 1)) := by
      rw [em, ← hmod]; exact r.get _
    have hne2 : i ≠ mv t i ((z : Int) + 1) := by
      intro q
      have h0 : (from' t i)[0]? = some i := r.path.get 0 hp
      have := (List.getElem?_inj hp r.nodup).1 (h0.trans ((congrArg some q).trans hg.symm))
      omega
    have hidx : (from' t i).idxOf (mv t i ((z : Int) + 1)) = z % (from' t i).length + 1 := by
      have h1 := List.getElem?_eq_some_iff.1 hg
      rw [← h1.2]
      exact r.nodup.idxOf_getElem _ hlt
    simp only [if_neg hne2]
    rw [hidx, if_neg hne, ho]
  · have hL : z % (from' t i).length + 1 = (from' t i).length := by omega
    have hmod : (z + 1) % (from' t i).length = 0 := by
      by_cases h1 : (from' t i).length = 1
      · rw [h1]; omega
      · rw [Nat.add_mod, Nat.mod_eq_of_lt (show 1 < (from' t i).length by omega), hL, Nat.mod_self]
    have he : mv t i ((z : Int) + 1) = i := by
      rw [em, r.it_mod, hmod]; rfl
    rw [he]
    simp only [if_true]
    conv => lhs; rw [← hL]
    rw [if_neg hne]
/-- Linking with the next element changes nothing. -/
theorem lnx_next {N : Nat} {nx pv : Nat → Nat} (hI : Inv N nx pv) {i : Nat} (hi : i < N) : ∀ k, lnx nx pv i (nx i) k = nx k := by
  intro k
  unfold lnx upd
  rw [hI.pn i hi]
  split <;> simp_all
theorem Rm.Rep.unlink_none {N : Nat} {nx pv : Nat → Nat} {t : List (List Nat)} (hR : Rep N nx t) (hI : Inv N nx pv) {i : Nat} (hi : i < N) (z : Nat) (hz : z % (from' t i).length = 0) : mv t i ((z : Int) + 1) = nx i := by
  have r := hR.from_ring hi
  rw [hR.mv_it hi, show ((z : Int) + 1) = ((z + 1 : Nat) : Int) from rfl, ← Int.natCast_emod, Int.toNat_natCast, ← r.it_mod, Nat.add_comm, it_add, it_one]
  have : it nx z (nx i) = nx i := by
    show it nx (z + 1) i = nx i
    rw [it_last, r.it_mod z, hz]; rfl
  exact this
theorem Rm.Rep.congr {N : Nat} {f g : Nat → Nat} {t : List (List Nat)} (h : Rep N f t) (e : ∀ k, g k = f k) : Rep N g t :=
  ⟨fun l hl => by obtain ⟨x, hx⟩ := h.ring l hl; exact ⟨x, hx.congr fun k _ => e k⟩, h.lt, h.all⟩
/-- The rings after n elements behind one are unlinked. -/
def unlink (t : List (List Nat)) (i z : Nat) : List (List Nat) := if z % (from' t i).length = 0 then t else link t i (mv t i ((z : Int) + 1))
theorem Rm.Rep.unlinked {N : Nat} {nx pv : Nat → Nat} {t : List (List Nat)} (hR : Rep N nx t) (hI : Inv N nx pv) {i : Nat} (hi : i < N) (z : Nat) : Rep N (lnx nx pv i (mv t i ((z : Int) + 1))) (unlink t i z) := by
  unfold Go.Proofs.Ytmkkkhlalacaiaa.unlink
  split
  · rename_i h
    rw [hR.unlink_none hI hi z h]
    exact hR.congr (lnx_next hI hi)
  · exact hR.link hI hi (hR.mv_lt hI hi _)

end Go.Proofs.Ytmkkkhlalacaiaa

/- Scripts that only look, and scripts of links that are turned: plain. -/
import Derived.Test.YtmkkkhlalacaiaaDrawnE
namespace Go.Proofs.Ytmkkkhlalacaiaa
open Go.RowKit
open Go.Proofs.Ytmkkkhlalacaiaa.Rm
set_option linter.unusedVariables false

/-- One call, as a step on the rings alone. -/
def stS (N : Nat) (t : List (List Nat)) (p : OpV) : List (List Nat) := if p.at' < N ∧ p.to < N then stT t p else t
def reS (N : Nat) (t : List (List Nat)) (p : OpV) : Int := if p.at' < N ∧ p.to < N then resT t p else -3
theorem runS_eq (N : Nat) (s : List Int × List (List Nat)) (p : OpV) : runS N s p = (s.1 ++ [reS N s.2 p], stS N s.2 p) := by
  unfold runS reS stS; split <;> rfl
theorem foldl_runS (N : Nat) (ps : List OpV) (s : List Int × List (List Nat)) : ps.foldl (runS N) s = (s.1 ++ (runR N s.2 ps).1, (runR N s.2 ps).2) := by
  unfold runR
  induction ps generalizing s with
  | nil => simp
  | cons p ps ih =>
    rw [List.foldl_cons, List.foldl_cons, runS_eq, runS_eq, ih, ih ([] ++ [reS N s.2 p], stS N s.2 p)]
    simp
theorem runR_cons (N : Nat) (t : List (List Nat)) (p : OpV) (ps : List OpV) : runR N t (p :: ps) = (reS N t p :: (runR N (stS N t p) ps).1, (runR N (stS N t p) ps).2) := by
  conv => lhs; unfold runR
  rw [List.foldl_cons, runS_eq, foldl_runS]; simp
theorem runR_append (N : Nat) (t : List (List Nat)) (ps qs : List OpV) : (runR N t (ps ++ qs)).2 = (runR N (runR N t ps).2 qs).2 := by
  unfold runR
  rw [List.foldl_append, foldl_runS N qs]; rfl
/-- A call that only looks. -/
def lookB (N : Nat) (p : OpV) : Bool := !(p.kind.toList == kLink) && !(p.kind.toList == kUnlink) && fitsP N p
theorem look_st {N : Nat} {t : List (List Nat)} {p : OpV} (h : lookB N p = true) : stS N t p = t := by
  unfold lookB at h
  simp only [Bool.and_eq_true, Bool.not_eq_true'] at h
  unfold stS stT
  split
  · simp only [h.1.1, h.1.2, Bool.false_eq_true, if_false]
    repeat (first | rfl | split)
  · rfl
def twice (ps : List OpV) : List OpV := ps.flatMap fun p => [p, p]
theorem look_run {N : Nat} {t : List (List Nat)} : ∀ {qs : List OpV}, (∀ p, p ∈ qs → lookB N p = true) → runR N t (twice qs) = (qs.flatMap (fun p => [reS N t p, reS N t p]), t)
  | [], _ => rfl
  | p :: qs, h => by
    have hp := h p (by simp)
    have ih := look_run (N := N) (t := t) (qs := qs) fun q hq => h q (by simp [hq])
    show runR N t (p :: p :: twice qs) = _
    rw [runR_cons, look_st hp, runR_cons, look_st hp, ih]
    simp

/-- A link that names elements that there are. -/
def linkB' (N : Nat) (p : OpV) : Bool := (p.kind.toList == kLink) && fitsP N p
theorem fitsP_in {N : Nat} {p : OpV} (h : fitsP N p = true) : p.at' < N ∧ p.to < N := by
  unfold fitsP at h
  simp only [Bool.not_eq_true', Bool.or_eq_false_iff, decide_eq_false_iff_not] at h
  omega
theorem link_kind {k : List UInt8} (h : (k == kLink) = true) : k = kLink := by simpa using h
theorem link_st {N : Nat} {t : List (List Nat)} {p : OpV} (h : linkB' N p = true) : stS N t p = Rm.link t p.at' p.to ∧ reS N t p = (mv t p.at' 1 : Nat) := by
  unfold linkB' at h
  simp only [Bool.and_eq_true] at h
  have hin := fitsP_in h.2
  have hk := link_kind h.1
  unfold stS reS stT resT
  rw [if_pos hin, if_pos hin, hk]
  exact ⟨rfl, rfl⟩
/-- The links back, last first. -/
def undo (ps : List OpV) (os : List Int) : List OpV := ((ps.zip os).map fun x => (⟨bLink, x.1.at', x.2.toNat, 0⟩ : OpV)).reverse
theorem turned {N : Nat} : ∀ {ps : List OpV} {t : List (List Nat)}, (∀ p, p ∈ ps → linkB' N p = true) → (∃ nx pv, Inv N nx pv ∧ Rep N nx t) → Eqv N (runR N t (ps ++ undo ps (runR N t ps).1)).2 t
  | [], t, _, ⟨nx, pv, h1, h2⟩ => ⟨nx, pv, h1, h2, h2⟩
  | p :: ps, t, hp, ⟨nx, pv, h1, h2⟩ => by
    have hl := hp p (by simp)
    obtain ⟨e1, e2⟩ := link_st (t := t) hl
    have hin := fitsP_in (Bool.and_eq_true_iff.1 hl).2
    have hI1 := h1.link hin.1 hin.2
    have hR1 := h2.link h1 hin.1 hin.2
    have ih := turned (ps := ps) (t := Rm.link t p.at' p.to) (fun q hq => hp q (by simp [hq])) ⟨_, _, hI1, hR1⟩
    have hmv := h2.mv_lt h1 hin.1 1
    have eu : undo (p :: ps) (runR N t (p :: ps)).1 = undo ps (runR N (Rm.link t p.at' p.to) ps).1 ++ [⟨bLink, p.at', mv t p.at' 1, 0⟩] := by
      rw [runR_cons, e1, e2]
      simp [undo]
    rw [eu, List.cons_append, runR_cons, e1]
    show Eqv N (runR N (Rm.link t p.at' p.to) (ps ++ (undo ps (runR N (Rm.link t p.at' p.to) ps).1 ++ [⟨bLink, p.at', mv t p.at' 1, 0⟩]))).2 t
    rw [← List.append_assoc, runR_append]
    generalize (runR N (Rm.link t p.at' p.to) (ps ++ undo ps (runR N (Rm.link t p.at' p.to) ps).1)).2 = t2 at ih
    have e3 : (runR N t2 [⟨bLink, p.at', mv t p.at' 1, 0⟩]).2 = Rm.link t2 p.at' (mv t p.at' 1) := by
      rw [runR_cons]
      show stS N t2 ⟨bLink, p.at', mv t p.at' 1, 0⟩ = _
      unfold stS
      rw [if_pos ⟨hin.1, hmv⟩, st_link]
    rw [e3]
    exact (ih.link hin.1 hmv).trans (link_back h1 h2 hin.1 hin.2).1

end Go.Proofs.Ytmkkkhlalacaiaa

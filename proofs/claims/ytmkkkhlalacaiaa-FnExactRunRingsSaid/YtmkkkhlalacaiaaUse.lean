/- The entry points on sizes that were drawn, in any world behind that of the draw. Written by genuse.py. -/
import Derived.Test.YtmkkkhlalacaiaaDraw
import Derived.Test.YtmkkkhlalacaiaaMv
namespace Go.Proofs.Ytmkkkhlalacaiaa
open Go.RowKit
open Go.Proofs.Ytmkkkhlalacaiaa.Rm
set_option linter.unusedVariables false

/-- A number, in a world behind w0. -/
def NumB (w0 : World) (m : Int) (e : Ending) (w' : World) : Prop := e = .returned (.int .i64 m) ∧ Below w0.heap.size w0 w'
/-- A list, in a world behind w0. -/
def ListB (w0 : World) (l : List Int) (e : Ending) (w' : World) : Prop := ∃ a n c, e = .returned (.slice a n c) ∧ Rd .i64 w' a n c l ∧ Below w0.heap.size w0 w'
theorem numB {w0 u w' : World} {m : Int} {e : Ending} (hu : Below w0.heap.size w0 u) (h : NumPost u m e w') : NumB w0 m e w' := ⟨h.1, hu.trans (h.2.mono hu.size)⟩
theorem listB {w0 u w' : World} {l : List Int} {e : Ending} (hu : Below w0.heap.size w0 u) (h : ListOut u l e w') : ListB w0 l e w' := by
  obtain ⟨a, n, c, h1, h2, h3⟩ := h
  exact ⟨a, n, c, h1, h2, hu.trans (h3.mono hu.size)⟩

theorem Szs.fits {w : World} {a : Option Addr} {n c : Nat} {xs : List Int} (h : Szs w a n c xs) (m : Nat) (hm : m ≤ 65535) :
    Calls Try.prog 7 #[.slice a n c, .int .u16 (m : Int)] w fun e w' => e = .returned (.bool (decide (m < tot xs))) ∧ w = w' := by
  refine (fits_calls w a n c xs m h.rd h.small.wf (by have := h.n3; omega) hm).mono ?_
  rintro e w' ⟨rfl, rfl⟩
  have := h.t21
  simp [fitsB, show tot xs ≤ 65536 by omega]
theorem Szs.made {w : World} {a : Option Addr} {n c : Nat} {xs : List Int} (h : Szs w a n c xs) (u : World) (hu : Below w.heap.size w u) :
    Calls Try.prog 9 #[.slice a n c] u fun e u' => ∃ a2 n2 c2, e = .returned (.slice a2 n2 c2) ∧ Rr u' a2 n2 c2 (mk xs) ∧ Below w.heap.size w u' := by
  have hk := h.below hu (Nat.le_refl _)
  have := hk.n3
  have := hk.t21
  refine (smade_calls u a n c xs hk.rd hk.small.wf (by omega) (by omega)).mono ?_
  rintro e u' ⟨a2, n2, c2, h1, h2, h3⟩
  exact ⟨a2, n2, c2, h1, h2, hu.trans (h3.mono hu.size)⟩

end Go.Proofs.Ytmkkkhlalacaiaa

/- The entry points on sizes that were drawn, in any world behind that of the draw. Written by genuse.py. -/
import Derived.Test.YtjkpphenfcddlaaDraw
import Derived.Test.YtjkpphenfcddlaaMv
import Derived.Test.YtjkpphenfcddlaaRound
namespace Go.Proofs.Ytjkpphenfcddlaa
open Go.RowKit
open Go.Proofs.Ytjkpphenfcddlaa.Rm
set_option linter.unusedVariables false

/-- A number, in a world behind w0. -/
def NumB (w0 : World) (m : Int) (e : Ending) (w' : World) : Prop := e = .returned (.int .i64 m) ∧ Below w0.heap.size w0 w'
/-- A list, in a world behind w0. -/
def ListB (w0 : World) (l : List Int) (e : Ending) (w' : World) : Prop := ∃ a n c, e = .returned (.slice a n c) ∧ Rd .i64 w' a n c l ∧ Below w0.heap.size w0 w'
theorem numB {w0 u w' : World} {m : Int} {e : Ending} (hu : Below w0.heap.size w0 u) (h : NumPost u m e w') : NumB w0 m e w' := ⟨h.1, hu.trans (h.2.mono hu.size)⟩
theorem listB {w0 u w' : World} {l : List Int} {e : Ending} (hu : Below w0.heap.size w0 u) (h : ListOut u l e w') : ListB w0 l e w' := by
  obtain ⟨a, n, c, h1, h2, h3⟩ := h
  exact ⟨a, n, c, h1, h2, hu.trans (h3.mono hu.size)⟩

theorem Szs.fits {w : World} {a : Option Addr} {n c : Nat} {xs : List Int} (h : Szs w a n c xs) (m : Nat) (hm : m ≤ 65535) :
    Calls Try.prog 11 #[.slice a n c, .int .u16 (m : Int)] w fun e w' => e = .returned (.bool (decide (m < tot xs))) ∧ w = w' := by
  refine (fits_calls w a n c xs m h.rd h.small.wf (by have := h.n3; omega) hm).mono ?_
  rintro e w' ⟨rfl, rfl⟩
  have := h.t21
  simp [fitsB, show tot xs ≤ 65536 by omega]
theorem Szs.next_in {w : World} {a : Option Addr} {n c : Nat} {xs : List Int} (h : Szs w a n c xs) (m : Nat) (hm : m ≤ 65535) (hi : m < tot xs) (u : World) (hu : Below w.heap.size w u) :
    Calls Try.prog 19 #[.slice a n c, .int .u16 (m : Int)] u (NumB w (mv (mk xs) m 1 : Nat)) := by
  have hk := h.below hu (Nat.le_refl _)
  have := hk.n3
  have := hk.t21
  exact (iNext_in u a n c xs m hk.rd hk.small.wf (by omega) (by omega) hi hm).mono fun e w' q => numB hu q
theorem Szs.next_out {w : World} {a : Option Addr} {n c : Nat} {xs : List Int} (h : Szs w a n c xs) (m : Nat) (hm : m ≤ 65535) (hi : tot xs ≤ m) (u : World) (hu : Below w.heap.size w u) :
    Calls Try.prog 19 #[.slice a n c, .int .u16 (m : Int)] u (NumB w (-3)) := by
  have hk := h.below hu (Nat.le_refl _)
  have := hk.n3
  have := hk.t21
  exact (iNext_out u a n c xs m hk.rd hk.small.wf (by omega) (by omega) hi hm).mono fun e w' q => numB hu q
theorem Szs.prev_in {w : World} {a : Option Addr} {n c : Nat} {xs : List Int} (h : Szs w a n c xs) (m : Nat) (hm : m ≤ 65535) (hi : m < tot xs) (u : World) (hu : Below w.heap.size w u) :
    Calls Try.prog 20 #[.slice a n c, .int .u16 (m : Int)] u (NumB w (mv (mk xs) m (-1) : Nat)) := by
  have hk := h.below hu (Nat.le_refl _)
  have := hk.n3
  have := hk.t21
  exact (iPrev_in u a n c xs m hk.rd hk.small.wf (by omega) (by omega) hi hm).mono fun e w' q => numB hu q
theorem Szs.prev_out {w : World} {a : Option Addr} {n c : Nat} {xs : List Int} (h : Szs w a n c xs) (m : Nat) (hm : m ≤ 65535) (hi : tot xs ≤ m) (u : World) (hu : Below w.heap.size w u) :
    Calls Try.prog 20 #[.slice a n c, .int .u16 (m : Int)] u (NumB w (-3)) := by
  have hk := h.below hu (Nat.le_refl _)
  have := hk.n3
  have := hk.t21
  exact (iPrev_out u a n c xs m hk.rd hk.small.wf (by omega) (by omega) hi hm).mono fun e w' q => numB hu q
theorem Szs.move_in {w : World} {a : Option Addr} {n c : Nat} {xs : List Int} (h : Szs w a n c xs) (m : Nat) (z : Int) (hm : m ≤ 65535) (hz : -9223372036854775808 ≤ z ∧ z ≤ 9223372036854775807) (hi : m < tot xs) (u : World) (hu : Below w.heap.size w u) :
    Calls Try.prog 23 #[.slice a n c, .int .u16 (m : Int), .int .i64 z] u (NumB w (mv (mk xs) m z : Nat)) := by
  have hk := h.below hu (Nat.le_refl _)
  have := hk.n3
  have := hk.t21
  exact (iMove_in u a n c xs m z hk.rd hk.small.wf (by omega) (by omega) hi hm hz).mono fun e w' q => numB hu q
theorem Szs.move_out {w : World} {a : Option Addr} {n c : Nat} {xs : List Int} (h : Szs w a n c xs) (m : Nat) (z : Int) (hm : m ≤ 65535) (hz : -9223372036854775808 ≤ z ∧ z ≤ 9223372036854775807) (hi : tot xs ≤ m) (u : World) (hu : Below w.heap.size w u) :
    Calls Try.prog 23 #[.slice a n c, .int .u16 (m : Int), .int .i64 z] u (NumB w (-3)) := by
  have hk := h.below hu (Nat.le_refl _)
  have := hk.n3
  have := hk.t21
  exact (iMove_out u a n c xs m z hk.rd hk.small.wf (by omega) (by omega) hi hm hz).mono fun e w' q => numB hu q
theorem Szs.len_in {w : World} {a : Option Addr} {n c : Nat} {xs : List Int} (h : Szs w a n c xs) (m : Nat) (hm : m ≤ 65535) (hi : m < tot xs) (u : World) (hu : Below w.heap.size w u) :
    Calls Try.prog 22 #[.slice a n c, .int .u16 (m : Int)] u (NumB w ((from' (mk xs) m).length : Nat)) := by
  have hk := h.below hu (Nat.le_refl _)
  have := hk.n3
  have := hk.t21
  exact (iLen_in u a n c xs m hk.rd hk.small.wf (by omega) (by omega) hi hm).mono fun e w' q => numB hu q
theorem Szs.len_out {w : World} {a : Option Addr} {n c : Nat} {xs : List Int} (h : Szs w a n c xs) (m : Nat) (hm : m ≤ 65535) (hi : tot xs ≤ m) (u : World) (hu : Below w.heap.size w u) :
    Calls Try.prog 22 #[.slice a n c, .int .u16 (m : Int)] u (NumB w (-3)) := by
  have hk := h.below hu (Nat.le_refl _)
  have := hk.n3
  have := hk.t21
  exact (iLen_out u a n c xs m hk.rd hk.small.wf (by omega) (by omega) hi hm).mono fun e w' q => numB hu q
theorem Szs.do_in {w : World} {a : Option Addr} {n c : Nat} {xs : List Int} (h : Szs w a n c xs) (m : Nat) (hm : m ≤ 65535) (hi : m < tot xs) (u : World) (hu : Below w.heap.size w u) :
    Calls Try.prog 13 #[.slice a n c, .int .u16 (m : Int)] u (ListB w (nats (from' (mk xs) m))) := by
  have hk := h.below hu (Nat.le_refl _)
  have := hk.n3
  have := hk.t21
  exact (iDo_in u a n c xs m hk.rd hk.small.wf (by omega) (by omega) hi hm).mono fun e w' q => listB hu q
theorem Szs.do_out {w : World} {a : Option Addr} {n c : Nat} {xs : List Int} (h : Szs w a n c xs) (m : Nat) (hm : m ≤ 65535) (hi : tot xs ≤ m) (u : World) (hu : Below w.heap.size w u) :
    Calls Try.prog 13 #[.slice a n c, .int .u16 (m : Int)] u (ListB w []) := by
  have hk := h.below hu (Nat.le_refl _)
  have := hk.n3
  have := hk.t21
  exact (iDo_out u a n c xs m hk.rd hk.small.wf (by omega) (by omega) hi hm).mono fun e w' q => listB hu q
theorem Szs.made {w : World} {a : Option Addr} {n c : Nat} {xs : List Int} (h : Szs w a n c xs) (u : World) (hu : Below w.heap.size w u) :
    Calls Try.prog 14 #[.slice a n c] u fun e u' => ∃ a2 n2 c2, e = .returned (.slice a2 n2 c2) ∧ Rr u' a2 n2 c2 (mk xs) ∧ Below w.heap.size w u' := by
  have hk := h.below hu (Nat.le_refl _)
  have := hk.n3
  have := hk.t21
  refine (smade_calls u a n c xs hk.rd hk.small.wf (by omega) (by omega)).mono ?_
  rintro e u' ⟨a2, n2, c2, h1, h2, h3⟩
  exact ⟨a2, n2, c2, h1, h2, hu.trans (h3.mono hu.size)⟩

end Go.Proofs.Ytjkpphenfcddlaa

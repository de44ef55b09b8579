/- Slices of numbers that are read: what the walks are told of them. -/
import Derived.WalkKit
import Derived.WalkLawsBesides
import Derived.WalkSpells
import Derived.Deep.QuietTactic
import Derived.BigQuiet
import Derived.Deep.LoopGhost
import Derived.Lib.Hide
namespace Go.Proofs.Ytmkkkhlalacaiaa
open Go.RowKit

/-- The slice value at a, of n elements and the capacity c, reads as the numbers xs. -/
def Rd (k : IntKind) (w : World) (a : Option Addr) (n c : Nat) (xs : List Int) : Prop :=
  xs.length = n ∧ n ≤ c ∧ c ≤ maxLen ∧ (a = none → n = 0 ∧ c = 0) ∧
    ∀ i, i < n → ∃ b off, a = some ⟨b, off, none⟩ ∧ b < w.heap.size ∧ w.cell? ⟨b, off + i, none⟩ = some (.int k (xs.getD i 0))

theorem Rd.len {k : IntKind} {w : World} {a : Option Addr} {n c : Nat} {xs : List Int} (h : Rd k w a n c xs) : xs.length = n := h.1
theorem Rd.le {k : IntKind} {w : World} {a : Option Addr} {n c : Nat} {xs : List Int} (h : Rd k w a n c xs) : n ≤ c ∧ c ≤ 9223372036854775807 := ⟨h.2.1, h.2.2.1⟩
theorem Rd.at {k : IntKind} {w : World} {a : Option Addr} {n c : Nat} {xs : List Int} (h : Rd k w a n c xs) (hn : 0 < n) :
    ∃ b off, a = some ⟨b, off, none⟩ ∧ b < w.heap.size ∧ ∀ i, i < n → w.cell? ⟨b, off + i, none⟩ = some (.int k (xs.getD i 0)) := by
  obtain ⟨h1, h2, h3, h4, h5⟩ := h
  obtain ⟨b, off, rfl, hb, hc⟩ := h5 0 hn
  refine ⟨b, off, rfl, hb, fun i hi => ?_⟩
  obtain ⟨b', off', e, _, hc'⟩ := h5 i hi
  simp only [Option.some.injEq, Addr.mk.injEq, and_true] at e
  obtain ⟨rfl, rfl⟩ := e
  exact hc'
theorem Rd.mk' {k : IntKind} {w : World} {b off n c : Nat} {xs : List Int} (h1 : xs.length = n) (h2 : n ≤ c) (h3 : c ≤ maxLen) (hb : 0 < n → b < w.heap.size)
    (hc : ∀ i, i < n → w.cell? ⟨b, off + i, none⟩ = some (.int k (xs.getD i 0))) : Rd k w (some ⟨b, off, none⟩) n c xs :=
  ⟨h1, h2, h3, fun h => (by cases h), fun i hi => ⟨b, off, rfl, hb (by omega), hc i hi⟩⟩
theorem Rd.nil (k : IntKind) (w : World) : Rd k w none 0 0 [] := ⟨rfl, Nat.le_refl _, by unfold maxLen; omega, fun _ => ⟨rfl, rfl⟩, fun i hi => by omega⟩
theorem Rd.below {k : IntKind} {w w' : World} {a : Option Addr} {n c : Nat} {xs : List Int} {B : Nat} (h : Rd k w a n c xs) (hb : Below B w w') (hB : w.heap.size ≤ B) : Rd k w' a n c xs := by
  obtain ⟨h1, h2, h3, h4, h5⟩ := h
  refine ⟨h1, h2, h3, h4, fun i hi => ?_⟩
  obtain ⟨b, off, e, hlt, hc⟩ := h5 i hi
  exact ⟨b, off, e, Nat.lt_of_lt_of_le hlt hb.size, by rw [hb.cell (p := ⟨b, off + i, none⟩) (by show b < B; omega)]; exact hc⟩

/- Blocks that are known whole. -/
theorem blk_lt {w : World} {g : Nat} {o : Obj} (h : w.heap[g]? = some o) : g < w.heap.size := (Array.getElem?_eq_some_iff.1 h).1
theorem blk_cell {w : World} {g o : Nat} {l : List Value} {t : TypeId} {fr : Nat × Nat} {v : Value} (h : w.heap[g]? = some (.cells l.toArray t fr)) (hv : l[o]? = some v) : w.cell? ⟨g, o, none⟩ = some v := by
  simp [World.cell?, h, hv]
theorem blk_free {w : World} {g o : Nat} {c : Array Value} {t : TypeId} (h : w.heap[g]? = some (.cells c t (0, 0))) : w.frozen? ⟨g, o, none⟩ = false := by
  simp [World.frozen?, h]
theorem blk_set {w : World} {g o : Nat} {l : List Value} {t : TypeId} {fr : Nat × Nat} {v : Value} (h : w.heap[g]? = some (.cells l.toArray t fr)) :
    (w.setCell ⟨g, o, none⟩ v).heap[g]? = some (.cells (l.set o v).toArray t fr) := by
  simp [World.setCell, Array.getElem?_modify, h]
theorem blk_other {w : World} {g o g' : Nat} {v : Value} (h : g' ≠ g) : (w.setCell ⟨g, o, none⟩ v).heap[g']? = w.heap[g']? := Below.heap_setCell _ _ _ _ h
theorem blk_below {w w' : World} {B g : Nat} {o : Obj} (hb : Below B w w') (hg : g < B) (h : w.heap[g]? = some o) : w'.heap[g]? = some o := (hb.block g hg).trans h
theorem below_set {w w' : World} {B : Nat} (h : Below B w w') {g o : Nat} {v : Value} (hg : B ≤ g) : Below B w (w'.setCell ⟨g, o, none⟩ v) := h.setCell (p := ⟨g, o, none⟩) hg v
/-- A part of a block that is known whole, read as a slice of numbers. -/
theorem Rd.blk {k : IntKind} {w : World} {g o n c : Nat} {l : List Value} {t : TypeId} {fr : Nat × Nat} {xs : List Int} (h : w.heap[g]? = some (.cells l.toArray t fr))
    (h1 : xs.length = n) (h2 : n ≤ c) (h3 : c ≤ maxLen) (hl : ∀ i, i < n → l[o + i]? = some (.int k (xs.getD i 0))) : Rd k w (some ⟨g, o, none⟩) n c xs :=
  Rd.mk' h1 h2 h3 (fun _ => blk_lt h) fun i hi => blk_cell h (hl i hi)

/- Slices of slices. -/
/-- Where x[lo:] lies: at lo, but as x where nothing is left. -/
def cutA (a : Option Addr) (mx lo : Nat) : Option Addr := if mx = lo then a else a.map (·.add lo)
theorem cutA_zero (a : Option Addr) (mx : Nat) : cutA a mx 0 = a := by
  unfold cutA; split
  · rfl
  · cases a <;> simp [Addr.add]
theorem cutA_some (b o mx lo : Nat) : ∃ o', cutA (some ⟨b, o, none⟩) mx lo = some ⟨b, o', none⟩ ∧ (lo < mx → o' = o + lo) := by
  unfold cutA; split
  · exact ⟨o, rfl, fun h => by omega⟩
  · exact ⟨o + lo, by simp [Addr.add_lit], fun _ => rfl⟩
theorem cutA_none (mx lo : Nat) : cutA none mx lo = none := by unfold cutA; split <;> rfl
theorem cutA_lt {mx lo b o : Nat} (h : lo < mx) : cutA (some ⟨b, o, none⟩) mx lo = some ⟨b, o + lo, none⟩ := by
  unfold cutA; rw [if_neg (by omega)]; simp [Addr.add_lit]
theorem cutA_isNone (a : Option Addr) (mx lo : Nat) : (cutA a mx lo).isNone = a.isNone := by
  unfold cutA; split
  · rfl
  · cases a <;> rfl

section
variable {P : Program} (w : World) (t e : TypeId) (a : Option Addr) (len cap lo hi mx : Nat) (k k' : IntKind) (hu : P.underlying t = some (.slice e)) (hs : (P.info? e).map (·.size) = some 1)
include hu hs
theorem run_cut {low high max : Option Value} (hb : (Instr.sliceBounds true len cap low high max).run P w = .ok (lo, hi, mx) w) :
    (Instr.slice t (.slice a len cap) low high max).run P w = .ok (.slice (cutA a mx lo) (hi - lo) (mx - lo)) w := by
  cases hq : P.info? e with
  | none => simp [hq] at hs
  | some i =>
    have hi : i.size = 1 := by simpa [hq] using hs
    simp [Instr.slice, run_underlying hu, hb, sizeOf, typeInfo, hq, hi, cutA]
/-- x[lo:] -/
theorem run_cut_low (i : Int) (h1 : i = lo) (h2 : lo ≤ len) :
    (Instr.slice t (.slice a len cap) (some (.int k i)) none none).run P w = .ok (.slice (cutA a cap lo) (len - lo) (cap - lo)) w := by
  subst h1
  exact run_cut w t e a len cap lo len cap hu hs (by simp [Instr.sliceBounds, go_sem, h2])
/-- x[lo:hi] -/
theorem run_cut_both (i j : Int) (h1 : i = lo) (h2 : j = hi) (h3 : lo ≤ hi) (h4 : hi ≤ cap) :
    (Instr.slice t (.slice a len cap) (some (.int k i)) (some (.int k' j)) none).run P w = .ok (.slice (cutA a cap lo) (hi - lo) (cap - lo)) w := by
  subst h1; subst h2
  exact run_cut w t e a len cap lo hi cap hu hs (by simp [Instr.sliceBounds, go_sem, h3, h4])
/-- x[:hi] -/
theorem run_cut_high (j : Int) (h2 : j = hi) (h4 : hi ≤ cap) :
    (Instr.slice t (.slice a len cap) none (some (.int k' j)) none).run P w = .ok (.slice a hi cap) w := by
  subst h2
  have := run_cut w t e a len cap 0 hi cap hu hs (low := none) (high := some (.int k' hi)) (max := none) (by simp [Instr.sliceBounds, go_sem, h4])
  simpa [cutA_zero] using this
/-- x[:hi:mx] -/
theorem run_cut_full (j m : Int) (h2 : j = hi) (h3 : m = mx) (h4 : hi ≤ mx) (h5 : mx ≤ cap) :
    (Instr.slice t (.slice a len cap) none (some (.int k j)) (some (.int k' m))).run P w = .ok (.slice a hi mx) w := by
  subst h2; subst h3
  have := run_cut w t e a len cap 0 hi mx hu hs (low := none) (high := some (.int k hi)) (max := some (.int k' mx)) (by simp [Instr.sliceBounds, go_sem, h4, h5])
  simpa [cutA_zero] using this
end
/-- A part of what is read. -/
theorem Rd.cut {k : IntKind} {w : World} {a : Option Addr} {n c lo hi : Nat} {xs : List Int} (h : Rd k w a n c xs) (h1 : lo ≤ hi) (h2 : hi ≤ n) : Rd k w (cutA a c lo) (hi - lo) (c - lo) ((xs.take hi).drop lo) := by
  obtain ⟨g1, g2, g3, g4, g5⟩ := h
  refine ⟨by simp; omega, by omega, by omega, ?_, ?_⟩
  · intro e
    have : a = none := by have := cutA_isNone a c lo; rw [e] at this; simpa using this.symm
    have := g4 this
    omega
  · intro i hi'
    obtain ⟨b, off, rfl, hb, hc⟩ := g5 (lo + i) (by omega)
    refine ⟨b, off + lo, cutA_lt (by omega), hb, ?_⟩
    rw [Nat.add_assoc, hc]
    simp only [List.getD_eq_getElem?_getD, List.getElem?_drop, List.getElem?_take]
    rw [if_pos (by omega)]

end Go.Proofs.Ytmkkkhlalacaiaa

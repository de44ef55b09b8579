/- Only blocks of rings turn: a relation of worlds. -/
import Derived.Test.YtmkkkhlalacaiaaIdx
namespace Go.Proofs.Ytmkkkhlalacaiaa
open Go.RowKit
open Go.Proofs.Ytmkkkhlalacaiaa.Rm
set_option linter.unusedVariables false

/-- Below block B only blocks of rings may have turned. -/
structure RB (Bk : Nat → Nat) (N B : Nat) (w w' : World) : Prop where
  os : w'.os = w.os
  tape : w'.tape = w.tape
  output : w'.output = w.output
  size : w.heap.size ≤ w'.heap.size
  block : ∀ k, k < B → (∀ i, i < N → k ≠ Bk i) → w'.heap[k]? = w.heap[k]?
theorem RB.refl (Bk : Nat → Nat) (N B : Nat) (w : World) : RB Bk N B w w := ⟨rfl, rfl, rfl, Nat.le_refl _, fun _ _ _ => rfl⟩
theorem RB.trans {Bk : Nat → Nat} {N B : Nat} {a b c : World} (h : RB Bk N B a b) (k : RB Bk N B b c) : RB Bk N B a c :=
  ⟨k.os.trans h.os, k.tape.trans h.tape, k.output.trans h.output, Nat.le_trans h.size k.size, fun i hi hn => (k.block i hi hn).trans (h.block i hi hn)⟩
theorem RSame.rb {Bk : Nat → Nat} {N : Nat} {w w' : World} (h : RSame Bk N w w') (B : Nat) : RB Bk N B w w' := ⟨h.os, h.tape, h.output, by rw [h.size]; exact Nat.le_refl _, fun k _ hn => h.block k hn⟩
theorem rb_of_below {B B' : Nat} {w w' : World} (h : Below B' w w') (hB : B ≤ B') (Bk : Nat → Nat) (N : Nat) : RB Bk N B w w' := ⟨h.os, h.tape, h.output, h.size, fun k hk _ => h.block k (by omega)⟩
theorem RB.below {Bk : Nat → Nat} {N B B0 : Nat} {w w' : World} (h : RB Bk N B w w') (h0 : B0 ≤ B) (hB : ∀ i, i < N → B0 ≤ Bk i) : Below B0 w w' :=
  ⟨h.os, h.tape, h.output, h.size, fun k hk => h.block k (by omega) (fun i hi e => by have := hB i hi; omega)⟩

theorem RB.mono {Bk : Nat → Nat} {N B B' : Nat} {w w' : World} (h : RB Bk N B w w') (hB : B' ≤ B) : RB Bk N B' w w' := ⟨h.os, h.tape, h.output, h.size, fun k hk hn => h.block k (by omega) hn⟩
theorem RB.drewN {Bk : Nat → Nat} {N B : Nat} {w w' : World} (h : RB Bk N B w w') (n : Nat) : RB Bk N B w (w'.drewN n) := ⟨h.os, h.tape, h.output, h.size, h.block⟩
/-- What is read outside of rings is read again. -/
theorem Rd.rb {k : IntKind} {Bk : Nat → Nat} {N B : Nat} {w w' : World} {a : Option Addr} {n c : Nat} {xs : List Int} (h : Rd k w a n c xs) (hr : RB Bk N B w w') (hB : ∀ ad, a = some ad → ad.block < B ∧ ∀ i, i < N → ad.block ≠ Bk i) : Rd k w' a n c xs := by
  obtain ⟨h1, h2, h3, h4, h5⟩ := h
  refine ⟨h1, h2, h3, h4, fun i hi => ?_⟩
  obtain ⟨b, off, e, hlt, hc⟩ := h5 i hi
  obtain ⟨q1, q2⟩ := hB _ e
  exact ⟨b, off, e, Nat.lt_of_lt_of_le hlt hr.size, by rw [World.cell?_of_block (w := w) (hr.block b q1 q2)]; exact hc⟩
/-- The slice of made elements stays. -/
theorem Mk.rb {w0 w w' : World} {v : Value} {N cnt : Nat} {Bk nx pv nx' pv' : Nat → Nat} (h : Mk w0 w v N cnt Bk nx pv) (hr : Rg w' Bk N nx' pv' (vals cnt)) (hs : RB Bk N w.heap.size w w') : Mk w0 w' v N cnt Bk nx' pv' :=
  ⟨hr, h.own.keep fun k hk => hs.block k (h.own.lt hk).2 (fun i hi e => h.ne i hi (by rw [hk, e])), h.hi, h.ne, h.below.trans (hs.below h.below.size h.hi)⟩
theorem path_take {f : Nat → Nat} {x y : Nat} {l : List Nat} (h : Path f x l y) {k : Nat} (hk : k < l.length) : l.take (k + 1) = l.take k ++ [it f k x] := by
  rw [List.take_add_one, h.get k hk]; rfl

end Go.Proofs.Ytmkkkhlalacaiaa

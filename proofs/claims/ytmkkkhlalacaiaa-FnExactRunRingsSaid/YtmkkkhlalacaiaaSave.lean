/- What the drawn laws on rings share: worlds in which a drawer alone turned, laws.large, and the bytes. -/
import Derived.Test.YtmkkkhlalacaiaaPick
namespace Go.Proofs.Ytmkkkhlalacaiaa
open Go.RowKit
set_option linter.unusedVariables false

/-- New blocks, and of the old ones only R may have turned. -/
structure Save (R : Nat) (w w' : World) : Prop where
  os : w'.os = w.os
  tape : w'.tape = w.tape
  output : w'.output = w.output
  size : w.heap.size ≤ w'.heap.size
  block : ∀ k, k < w.heap.size → k ≠ R → w'.heap[k]? = w.heap[k]?
theorem Save.refl (R : Nat) (w : World) : Save R w w := ⟨rfl, rfl, rfl, Nat.le_refl _, fun _ _ _ => rfl⟩
theorem Save.trans {R : Nat} {a b c : World} (h : Save R a b) (k : Save R b c) : Save R a c :=
  ⟨k.os.trans h.os, k.tape.trans h.tape, k.output.trans h.output, Nat.le_trans h.size k.size, fun i hi hne => (k.block i (Nat.lt_of_lt_of_le hi h.size) hne).trans (h.block i hi hne)⟩
theorem Save.of_sole {R : Nat} {w w' : World} (h : Sole R w w') : Save R w w' := ⟨h.os, h.tape, h.output, by rw [h.size]; exact Nat.le_refl _, fun k _ hne => h.block k hne⟩
theorem Save.of_below {R : Nat} {w w' : World} {B : Nat} (h : Below B w w') (hB : w.heap.size ≤ B) : Save R w w' := ⟨h.os, h.tape, h.output, h.size, fun k hk _ => h.block k (by omega)⟩
theorem Save.below {R B : Nat} {w w' : World} (h : Save R w w') (hB : B ≤ R) (hB2 : B ≤ w.heap.size) : Below B w w' := ⟨h.os, h.tape, h.output, h.size, fun k hk => h.block k (by omega) (by omega)⟩
theorem Save.alloc {R : Nat} (w : World) (o : Obj) : Save R w (w.alloc o) := .of_below ((Below.refl w.heap.size w).alloc (Nat.le_refl _) o) (Nat.le_refl _)
/-- What is read elsewhere than at R is read again. -/
theorem Rd.save {R : Nat} {w w' : World} {k : IntKind} {a : Option Addr} {n c : Nat} {xs : List Int} (h : Rd k w a n c xs) (hs : Save R w w') (hR : ∀ ad, a = some ad → ad.block ≠ R) : Rd k w' a n c xs := by
  obtain ⟨h1, h2, h3, h4, h5⟩ := h
  refine ⟨h1, h2, h3, h4, fun i hi => ?_⟩
  obtain ⟨b, off, e, hlt, hc⟩ := h5 i hi
  exact ⟨b, off, e, Nat.lt_of_lt_of_le hlt hs.size, by rw [World.cell?_of_block (w := w) (hs.block b hlt (hR _ e))]; exact hc⟩
theorem Own.save {E : TypeId} {base R : Nat} {w w' : World} {v : Value} {xs : List Value} (h : Own E base w v xs) (hs : Save R w w') (hR : R < base) : Own E base w' v xs :=
  h.keep fun k hk => hs.block k (h.lt hk).2 (by have := (h.lt hk).1; omega)
theorem Drw.keep {w w' : World} {R : Nat} {ba : Option Addr} {bn bc : Nat} {bs : List Int} {p : Nat} (h : Drw w R ba bn bc bs p) {B : Nat} (hb : Below B w w') (hR : R < B) (hB : ∀ ad, ba = some ad → ad.block < B) : Drw w' R ba bn bc bs p := by
  refine ⟨(hb.block R hR).trans h.blk, ?_, h.lo, h.off⟩
  obtain ⟨h1, h2, h3, h4, h5⟩ := h.rd
  refine ⟨h1, h2, h3, h4, fun i hi => ?_⟩
  obtain ⟨b, off, e, hlt, hc⟩ := h5 i hi
  exact ⟨b, off, e, Nat.lt_of_lt_of_le hlt hb.size, by rw [World.cell?_of_block (w := w) (hb.block b (hB _ e))]; exact hc⟩

/-- Bytes. -/
def Bytes (bs : List Int) : Prop := ∀ i, i < bs.length → 0 ≤ bs.getD i 0 ∧ bs.getD i 0 ≤ 255

theorem large_calls (a : Option Addr) (n c : Nat) (w : World) (h : n ≤ 9223372036854775807) :
    Calls Try.prog 15 #[.slice a n c] w fun e w' => e = .returned (.bool (decide (1048576 < n))) ∧ w = w' := by
  by_cases hl : 1048576 < n
  · go_enter Try.func15, Try.ntmps15
    go_wp2
    go_ret
    exact ⟨by simp; omega, rfl⟩
  · go_enter Try.func15, Try.ntmps15
    go_wp2
    go_ret
    exact ⟨by simp; omega, rfl⟩

theorem Rd.lt {k : IntKind} {w : World} {a : Option Addr} {n c : Nat} {xs : List Int} (h : Rd k w a n c xs) (hn : 0 < n) : ∀ ad, a = some ad → ad.block < w.heap.size := by
  intro ad e
  obtain ⟨b, off, e2, hb, _⟩ := h.at hn
  rw [e] at e2
  cases e2
  exact hb
/-- A slice of no element may lie anywhere: take it as one that lies in no old block. -/
theorem drw_start {w : World} {a : Option Addr} {n c : Nat} {bs : List Int} (h : Rd .u8 w a n c bs) (hb : Bytes bs) (hlt : ∀ ad, a = some ad → ad.block < w.heap.size) :
    Drw (w.alloc (.cells #[.slice a n c, .int .i64 0] 62)) w.heap.size a n c bs 0 :=
  ⟨heap_alloc_new w _, h.below ((Below.refl w.heap.size w).alloc (Nat.le_refl _) _) (Nat.le_refl _), fun i hi => hb i (by rw [h.len]; exact hi), fun ad e => by have := hlt ad e; omega⟩

theorem bytes_of_wf {xs : List Int} (h : ∀ x ∈ xs, (Lit.int .u8 x).wf = true) : Bytes xs := by
  intro i hi
  have hx := h _ (show xs.getD i 0 ∈ xs by simp [List.getD_eq_getElem?_getD, hi])
  simp [Lit.wf, IntKind.min, IntKind.max, IntKind.signed, IntKind.bits] at hx
  simp only [List.getD_eq_getElem?_getD]
  omega

end Go.Proofs.Ytmkkkhlalacaiaa

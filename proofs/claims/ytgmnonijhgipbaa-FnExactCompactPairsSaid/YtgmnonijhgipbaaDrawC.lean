/- laws.large and spec.DrawContainsFunc (spec.DrawDeleteFunc is the same). -/
import Derived.Test.YtgmnonijhgipbaaNums
namespace Go.Proofs.Ytgmnonijhgipbaa
open Go.RowKit
set_option linter.unusedVariables false

/-- Bytes. -/
def Bytes (bs : List Int) : Prop := ∀ i, i < bs.length → 0 ≤ bs.getD i 0 ∧ bs.getD i 0 ≤ 255

theorem large_calls (a : Option Addr) (n c : Nat) (w : World) (h : n ≤ 9223372036854775807) :
    Calls Try.prog 14 #[.slice a n c] w fun e w' => e = .returned (.bool (decide (1048576 < n))) ∧ w = w' := by
  by_cases hl : 1048576 < n
  · go_enter Try.func14, Try.ntmps14
    go_wp2
    go_ret
    exact ⟨by simp; omega, rfl⟩
  · go_enter Try.func14, Try.ntmps14
    go_wp2
    go_ret
    exact ⟨by simp; omega, rfl⟩

/-- Two slices of numbers were drawn. -/
def Drawn2 (w : World) (m1 m2 : Nat) (e : Ending) (w' : World) : Prop :=
  ∃ a n c xs b m d ys, e = .returned (.tuple #[.slice a n c, .slice b m d]) ∧ Rd .i64 w' a n c xs ∧ Rd .i64 w' b m d ys ∧ n ≤ m1 ∧ m ≤ m2 ∧ Ints xs ∧ Ints ys ∧ (∀ ad, a = some ad → ad.block < w'.heap.size) ∧ (∀ ad, b = some ad → ad.block < w'.heap.size) ∧ Below w.heap.size w w'

theorem Rd.lt {k : IntKind} {w : World} {a : Option Addr} {n c : Nat} {xs : List Int} (h : Rd k w a n c xs) (hn : 0 < n) : ∀ ad, a = some ad → ad.block < w.heap.size := by
  intro ad e
  obtain ⟨b, off, e2, hb, _⟩ := h.at hn
  rw [e] at e2
  cases e2
  exact hb
/-- A slice of no element may lie anywhere: take it as one that lies in no old block. -/
theorem drw_start {w : World} {a : Option Addr} {n c : Nat} {bs : List Int} (h : Rd .u8 w a n c bs) (hb : Bytes bs) (hlt : ∀ ad, a = some ad → ad.block < w.heap.size) :
    Drw (w.alloc (.cells #[.slice a n c, .int .i64 0] 46)) w.heap.size a n c bs 0 :=
  ⟨heap_alloc_new w _, h.below ((Below.refl w.heap.size w).alloc (Nat.le_refl _) _) (Nat.le_refl _), fun i hi => hb i (by rw [h.len]; exact hi), fun ad e => by have := hlt ad e; omega⟩

set_option maxHeartbeats 400000 in
theorem drawContains_calls (w : World) (a : Option Addr) (n c : Nat) (bs : List Int) (h : Rd .u8 w a n c bs) (hb : Bytes bs) (hlt : ∀ ad, a = some ad → ad.block < w.heap.size) :
    Calls Try.prog 32 #[.slice a n c] w (Drawn2 w 8 2) := by
  have hd := Lib.hid (drw_start h hb hlt)
  have hb0 : Below w.heap.size w (w.alloc (.cells #[.slice a n c, .int .i64 0] 46)) := (Below.refl _ _).alloc (Nat.le_refl _) _
  go_enter Try.func32, Try.ntmps32
  go_wp2_with fail
  refine (numbers_calls _ w.heap.size a n c bs 0 8 hd.out (by omega) (by omega) (fun ad e => by have := hlt ad e; simp; omega)).mono ?_
  rintro e w1 ⟨a1, n1, c1, xs, p1, rfl, hr1, hn1, hc1, hi1, hl1, hp1, hd1, hs1⟩
  have hsz := hs1.size
  simp only [World.size_alloc] at hsz
  have hlt1 : ∀ ad, a1 = some ad → ad.block ≠ w.heap.size := fun ad e => by have := (hl1 ad e).1; simp at this; omega
  have hb1 := hb0.trans (hs1.below (Nat.le_refl _) (by simp))
  have hd1' := Lib.hid hd1
  have hr1' := Lib.hid hr1
  have hl1' := Lib.hid hl1
  clear hd hb0 hd1 hr1 hs1 hl1
  go_wp2_with fail
  refine (numbers_calls _ w.heap.size a n c bs p1 2 hd1'.out (by omega) (by omega) (fun ad e => by have := hlt ad e; omega)).mono ?_
  rintro e w2 ⟨a2, n2, c2, ys, p2, rfl, hr2, hn2, hc2, hi2, hl2, hp2, hd2, hs2⟩
  have hb2 := hb1.trans (hs2.below (Nat.le_refl _) (by omega))
  have hr3 := Lib.hid (hr1'.out.save hs2 hlt1)
  have hr4 := Lib.hid hr2
  have hl2' := Lib.hid hl2
  have hsz2 := hs2.size
  clear hl2
  clear hr2 hd2 hs2 hd1' hr1' hb1
  go_wp2
  go_ret2
  exact ⟨a1, n1, c1, xs, a2, n2, c2, ys, rfl, hr3.out, hr4.out, hn1, hn2, hi1, hi2, (fun ad e => Nat.lt_of_lt_of_le (hl1'.out ad e).2 hsz2), (fun ad e => (hl2'.out ad e).2), hb2⟩

theorem drawDelete_calls (w : World) (a : Option Addr) (n c : Nat) (bs : List Int) (h : Rd .u8 w a n c bs) (hb : Bytes bs) (hlt : ∀ ad, a = some ad → ad.block < w.heap.size) :
    Calls Try.prog 20 #[.slice a n c] w (Drawn2 w 8 2) := by
  go_enter Try.func20, Try.ntmps20
  go_wp2_with fail
  refine (drawContains_calls w a n c bs h hb hlt).mono ?_
  rintro e w1 ⟨a1, n1, c1, xs, a2, n2, c2, ys, rfl, hq⟩
  have hq' := Lib.hid hq
  clear hq hlt
  go_wp2
  go_ret2
  exact ⟨a1, n1, c1, xs, a2, n2, c2, ys, rfl, hq'.out⟩

end Go.Proofs.Ytgmnonijhgipbaa

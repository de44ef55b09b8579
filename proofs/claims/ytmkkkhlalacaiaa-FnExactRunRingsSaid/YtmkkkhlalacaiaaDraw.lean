/- What is drawn for rings: an element, steps, and the draws of the laws. -/
import Derived.Test.YtmkkkhlalacaiaaSizes
namespace Go.Proofs.Ytmkkkhlalacaiaa
open Go.RowKit
open Go.Proofs.Ytmkkkhlalacaiaa.Rm
set_option linter.unusedVariables false

set_option maxHeartbeats 400000 in
theorem at_calls (w : World) (R : Nat) (ba : Option Addr) (bn bc : Nat) (bs : List Int) (p : Nat) (a : Option Addr) (n c : Nat) (xs : List Int) (h : Drw w R ba bn bc bs p) (hp : p ≤ 1000) (hba : ∀ ad, ba = some ad → ad.block < w.heap.size)
    (hr : Rd .u16 w a n c xs) (hn : n ≤ 3) (hx : Smalls xs) :
    Calls Try.prog 30 #[.pointer (some ⟨R, 0, none⟩), .slice a n c] w (AtDrawn w R ba bn bc bs p) := by
  have hR := blk_lt h.blk
  have ht : tot xs ≤ 21 := by have := hx.tot; have := hr.len; omega
  have h' := Lib.hid h
  clear h
  go_enter Try.func30, Try.ntmps30
  go_wp2_with fail
  refine (smade_calls w a n c xs hr hx.wf (by omega) (by omega)).mono ?_
  rintro e w1 ⟨a1, n1, c1, rfl, hr1, hb1⟩
  have hd1 := Lib.hid (h'.out.keep hb1 hR hba)
  have hs1 : Hid (Save R w w1) := Save.of_below hb1 (Nat.le_refl _)
  have hct := count_calls w1 a1 n1 c1 _ hr1 (by rw [cnt_mk]; omega)
  rw [cnt_mk] at hct
  clear hr hb1 hr1 h'
  generalize tot xs = M at ht hct
  go_wp2_with fail
  refine hct.mono ?_
  rintro e w2 ⟨rfl, rfl⟩
  clear hct
  go_wp2_with fail
  refine (pick_calls _ R ba bn bc bs p 24 hd1.out (by omega) (by omega)).mono ?_
  rintro e w3 ⟨k2, rfl, hk2, hd3, hs5⟩
  have hs6 := Lib.hid (hs1.out.trans (Save.of_sole hs5))
  clear hs1 hs5 hk2
  by_cases hz : k2 = 0
  · have t : ((k2 : Int) == 0) = true := by simp [hz]
    have hz' := Lib.hid hz
    clear hz
    go_wp2_with fail
    refine (pick_calls _ R ba bn bc bs (p + 1) 2 hd3 (by omega) (by omega)).mono ?_
    rintro e w4 ⟨k3, rfl, hk3, hd4, hs7⟩
    have hs8 := Lib.hid (hs6.out.trans (Save.of_sole hs7))
    have hk4 : k3 ≤ 1 := by omega
    have hd4' := Lib.hid hd4
    clear hs6 hs7 hk3 hd3 hd4
    go_wp2
    go_ret
    exact ⟨M + k3 * 60000, p + 1 + 1, by simp, by omega, by omega, hd4'.out, hs8.out⟩
  · have t : ((k2 : Int) == 0) = false := by simp [hz]
    clear hz
    go_wp2_with fail
    refine (pick_calls _ R ba bn bc bs (p + 1) (M : Int) hd3 (by omega) (by omega)).mono ?_
    rintro e w4 ⟨k3, rfl, hk3, hd4, hs7⟩
    have hs8 := Lib.hid (hs6.out.trans (Save.of_sole hs7))
    have hk4 : k3 ≤ 21 := by omega
    have hd4' := Lib.hid hd4
    clear hs6 hs7 hk3 hd3 hd4
    go_wp2
    go_ret
    exact ⟨k3, p + 1 + 1, rfl, by omega, by omega, hd4'.out, hs8.out⟩

/-- What steps comes to. -/
def StepsDrawn (w : World) (R : Nat) (ba : Option Addr) (bn bc : Nat) (bs : List Int) (p : Nat) (e : Ending) (w' : World) : Prop :=
  ∃ (z : Int) (p' : Nat), e = .returned (.int .i64 z) ∧ (-1000000 ≤ z ∧ z ≤ 1000000) ∧ p' ≤ p + 2 ∧ Drw w' R ba bn bc bs p' ∧ Save R w w'
theorem step_cells (w : World) (k : Nat) (hk : k < 7) {g : Nat}
    (h : w.heap[g]? = some (.cells #[.int .i64 0, .int .i64 (-1), .int .i64 20, .int .i64 (-20), .int .i64 1000000, .int .i64 (-1000000), .int .i64 4097] 3 (0, 0))) : ∃ y : Int, (-1000000 ≤ y ∧ y ≤ 1000000) ∧ w.cell? ⟨g, k, none⟩ = some (.int .i64 y) := by
  match k, hk with
  | 0, _ => exact ⟨0, by omega, blk_cell (l := [_, _, _, _, _, _, _]) h rfl⟩
  | 1, _ => exact ⟨-1, by omega, blk_cell (l := [_, _, _, _, _, _, _]) h rfl⟩
  | 2, _ => exact ⟨20, by omega, blk_cell (l := [_, _, _, _, _, _, _]) h rfl⟩
  | 3, _ => exact ⟨-20, by omega, blk_cell (l := [_, _, _, _, _, _, _]) h rfl⟩
  | 4, _ => exact ⟨1000000, by omega, blk_cell (l := [_, _, _, _, _, _, _]) h rfl⟩
  | 5, _ => exact ⟨-1000000, by omega, blk_cell (l := [_, _, _, _, _, _, _]) h rfl⟩
  | 6, _ => exact ⟨4097, by omega, blk_cell (l := [_, _, _, _, _, _, _]) h rfl⟩
set_option maxHeartbeats 400000 in
theorem steps_calls (w : World) (R : Nat) (ba : Option Addr) (bn bc : Nat) (bs : List Int) (p : Nat) (h : Drw w R ba bn bc bs p) (hp : p ≤ 1000) (hba : ∀ ad, ba = some ad → ad.block < w.heap.size) :
    Calls Try.prog 31 #[.pointer (some ⟨R, 0, none⟩)] w (StepsDrawn w R ba bn bc bs p) := by
  have hR := blk_lt h.blk
  have h' := Lib.hid h
  clear h
  go_enter Try.func31, Try.ntmps31
  go_wp2_with fail
  refine (pick_calls _ R ba bn bc bs p 8 h'.out (by omega) (by omega)).mono ?_
  rintro e w3 ⟨k2, rfl, hk2, hd3, hs5⟩
  have hs6 := Lib.hid (Save.of_sole hs5)
  have hsz := hs5.size
  have hsz' : w.heap.size ≤ w3.heap.size := by omega
  clear hs5 hk2 h' hsz
  by_cases hz : k2 = 0
  · have t : ((k2 : Int) == 0) = true := by simp [hz]
    have hz' := Lib.hid hz
    clear hz
    have hbl : Below w3.heap.size w3 (w3.alloc (.cells #[.int .i64 0, .int .i64 (-1), .int .i64 20, .int .i64 (-20), .int .i64 1000000, .int .i64 (-1000000), .int .i64 4097] 3)) := (Below.refl _ _).alloc (Nat.le_refl _) _
    have hd4 := Lib.hid (hd3.keep hbl (by omega) (fun ad e => by have := hba ad e; omega))
    have hs7 := Lib.hid (hs6.out.trans (Save.of_below hbl (Nat.le_refl _)))
    have hblk := Lib.hid (heap_alloc_new w3 (.cells #[.int .i64 0, .int .i64 (-1), .int .i64 20, .int .i64 (-20), .int .i64 1000000, .int .i64 (-1000000), .int .i64 4097] 3))
    clear hd3 hs6 hbl
    go_wp2_with fail
    refine (pick_calls _ R ba bn bc bs (p + 1) 7 hd4.out (by omega) (by omega)).mono ?_
    rintro e w4 ⟨k3, rfl, hk3, hd5, hs8⟩
    have hk4 : k3 < 7 := by omega
    have hblk2 := (hs8.block w3.heap.size (by omega)).trans hblk.out
    obtain ⟨y, hy, hcy⟩ := step_cells w4 k3 hk4 hblk2
    have hs9 := Lib.hid (hs7.out.trans (Save.of_sole hs8))
    have hd5' := Lib.hid hd5
    clear hblk hblk2 hd4 hs7 hs8 hk3 hd5
    go_wp2
    go_ret
    exact ⟨y, p + 1 + 1, rfl, hy, by omega, hd5'.out, hs9.out⟩
  · have t : ((k2 : Int) == 0) = false := by simp [hz]
    clear hz
    go_wp2_with fail
    refine (pick_calls _ R ba bn bc bs (p + 1) 15 hd3 (by omega) (by omega)).mono ?_
    rintro e w4 ⟨k3, rfl, hk3, hd4, hs7⟩
    have hs8 := Lib.hid (hs6.out.trans (Save.of_sole hs7))
    have hk4 : k3 ≤ 14 := by omega
    have hd4' := Lib.hid hd4
    clear hs6 hs7 hk3 hd3 hd4
    go_wp2
    go_ret
    exact ⟨(k3 : Int) - 5, p + 1 + 1, rfl, by omega, by omega, hd4'.out, hs8.out⟩

/-- Sizes that were drawn. -/
structure Szs (w : World) (a : Option Addr) (n c : Nat) (xs : List Int) : Prop where mk0 ::
  rd : Rd .u16 w a n c xs
  small : Smalls xs
  n3 : n ≤ 3
theorem Szs.t21 {w : World} {a : Option Addr} {n c : Nat} {xs : List Int} (h : Szs w a n c xs) : tot xs ≤ 21 := by have := h.small.tot; have := h.rd.len; have := h.n3; omega
theorem Szs.below {w w' : World} {a : Option Addr} {n c : Nat} {xs : List Int} {B : Nat} (h : Szs w a n c xs) (hb : Below B w w') (hB : w.heap.size ≤ B) : Szs w' a n c xs := ⟨h.rd.below hb hB, h.small, h.n3⟩

/-- What one comes to. -/
def OneDrawn (w : World) (ba : Option Addr) (bn bc : Nat) (bs : List Int) (e : Ending) (w' : World) : Prop :=
  ∃ a n c xs, ∃ m p : Nat, e = .returned (.tuple #[.pointer (some ⟨w.heap.size, 0, none⟩), .slice a n c, .int .u16 (m : Int)]) ∧ Szs w' a n c xs ∧ (∀ ad, a = some ad → w.heap.size < ad.block ∧ ad.block < w'.heap.size) ∧ m ≤ 65535 ∧ p ≤ 10 ∧ Drw w' w.heap.size ba bn bc bs p ∧ w.heap.size < w'.heap.size ∧ Below w.heap.size w w'


/-- Sizes and an element were drawn. -/
def DrawnAt (w : World) (e : Ending) (w' : World) : Prop :=
  ∃ a n c xs, ∃ m : Nat, e = .returned (.tuple #[.slice a n c, .int .u16 (m : Int)]) ∧ Szs w' a n c xs ∧ m ≤ 65535 ∧ Below w.heap.size w w'

/-- Sizes, an element and steps were drawn. -/
def DrawnMove (w : World) (e : Ending) (w' : World) : Prop :=
  ∃ a n c xs, ∃ (m : Nat) (z : Int), e = .returned (.tuple #[.slice a n c, .int .u16 (m : Int), .int .i64 z]) ∧ Szs w' a n c xs ∧ m ≤ 65535 ∧ (-1000000 ≤ z ∧ z ≤ 1000000) ∧ Below w.heap.size w w'
/-- Sizes and two elements were drawn. -/
def DrawnTwo (w : World) (e : Ending) (w' : World) : Prop :=
  ∃ a n c xs, ∃ m k : Nat, e = .returned (.tuple #[.slice a n c, .int .u16 (m : Int), .int .u16 (k : Int)]) ∧ Szs w' a n c xs ∧ m ≤ 65535 ∧ k ≤ 65535 ∧ Below w.heap.size w w'

end Go.Proofs.Ytmkkkhlalacaiaa

/- (*rd).pick returns a number from 0 to n-1 (0 if n is less than 1), and counts its calls; nothing else in memory turns. -/
import Derived.Test.YtmkkkhlalacaiaaProg
import Derived.Test.YtmkkkhlalacaiaaOwn
namespace Go.Proofs.Ytmkkkhlalacaiaa
open Go.RowKit
set_option linter.unusedVariables false

/-- Only block R may have turned. -/
structure Sole (R : Nat) (w w' : World) : Prop where
  os : w'.os = w.os
  tape : w'.tape = w.tape
  output : w'.output = w.output
  size : w'.heap.size = w.heap.size
  block : ∀ k, k ≠ R → w'.heap[k]? = w.heap[k]?
theorem Sole.below {R B : Nat} {w w' : World} (h : Sole R w w') (hB : B ≤ R) : Below B w w' := ⟨h.os, h.tape, h.output, by rw [h.size]; exact Nat.le_refl _, fun k hk => h.block k (by omega)⟩
theorem Sole.set (R o : Nat) (w : World) (v : Value) : Sole R w (w.setCell ⟨R, o, none⟩ v) := ⟨rfl, rfl, rfl, by simp [World.setCell], fun k hk => blk_other hk⟩
theorem Sole.drewN {R : Nat} {w w' : World} (h : Sole R w w') (n : Nat) : Sole R w (w'.drewN n) := ⟨h.os, h.tape, h.output, h.size, h.block⟩

/-- The state of a drawer: its bytes, and how many numbers were drawn. -/
structure Drw (w : World) (R : Nat) (ba : Option Addr) (bn bc : Nat) (bs : List Int) (p : Nat) : Prop where
  blk : w.heap[R]? = some (.cells #[.slice ba bn bc, .int .i64 (p : Int)] 62 (0, 0))
  rd : Rd .u8 w ba bn bc bs
  lo : ∀ i, i < bn → 0 ≤ bs.getD i 0 ∧ bs.getD i 0 ≤ 255
  off : ∀ ad, ba = some ad → ad.block ≠ R

/-- What pick comes to. -/
def Picked (w : World) (R : Nat) (ba : Option Addr) (bn bc : Nat) (bs : List Int) (p : Nat) (n : Int) (e : Ending) (w' : World) : Prop :=
  ∃ k : Nat, e = .returned (.int .i64 (k : Int)) ∧ ((k : Int) < n ∨ k = 0) ∧ Drw w' R ba bn bc bs (p + 1) ∧ Sole R w w'

theorem Drw.next {w w' : World} {R : Nat} {ba : Option Addr} {bn bc : Nat} {bs : List Int} {p : Nat} (h : Drw w R ba bn bc bs p) (hs : Sole R w w')
    (hb : w'.heap[R]? = some (.cells #[.slice ba bn bc, .int .i64 ((p + 1 : Nat) : Int)] 62 (0, 0))) : Drw w' R ba bn bc bs (p + 1) := by
  refine ⟨hb, ?_, h.lo, h.off⟩
  obtain ⟨h1, h2, h3, h4, h5⟩ := h.rd
  refine ⟨h1, h2, h3, h4, fun i hi => ?_⟩
  obtain ⟨b, off, e, hlt, hc⟩ := h5 i hi
  refine ⟨b, off, e, by rw [hs.size]; exact hlt, ?_⟩
  rw [World.cell?_of_block (w := w) (hs.block b (h.off _ e))]
  exact hc
theorem Drw.next' {w : World} {R : Nat} {ba : Option Addr} {bn bc : Nat} {bs : List Int} {p : Nat} (h : Drw w R ba bn bc bs p) (n : Nat) : Drw (w.drewN n) R ba bn bc bs p := ⟨h.blk, h.rd, h.lo, h.off⟩
theorem Drw.set {w : World} {R : Nat} {ba : Option Addr} {bn bc : Nat} {bs : List Int} {p : Nat} (h : Drw w R ba bn bc bs p) :
    (w.setCell ⟨R, 1, none⟩ (.int .i64 ((p : Int) + 1))).heap[R]? = some (.cells #[.slice ba bn bc, .int .i64 ((p + 1 : Nat) : Int)] 62 (0, 0)) :=
  blk_set (l := [.slice ba bn bc, .int .i64 (p : Int)]) h.blk

theorem xor_i64_nonneg (a b : Int) (h1 : 0 ≤ a) (h2 : a < 4294967296) (h3 : 0 ≤ b) (h4 : b < 4294967296) : 0 ≤ bits .xor .i64 a b := by
  obtain ⟨A, rfl⟩ := Int.eq_ofNat_of_zero_le h1
  obtain ⟨B, rfl⟩ := Int.eq_ofNat_of_zero_le h3
  have hx : A ^^^ B < 2 ^ 32 := Nat.xor_lt_two_pow (by omega) (by omega)
  have e1 : (BitVec.ofInt 64 (A : Int)).toNat = A := by
    rw [BitVec.ofInt_natCast, BitVec.toNat_ofNat]; exact Nat.mod_eq_of_lt (by omega)
  have e2 : (BitVec.ofInt 64 (B : Int)).toNat = B := by
    rw [BitVec.ofInt_natCast, BitVec.toNat_ofNat]; exact Nat.mod_eq_of_lt (by omega)
  show 0 ≤ IntKind.i64.wrap ((BitVec.ofInt 64 (A : Int) ^^^ BitVec.ofInt 64 (B : Int)).toNat : Int)
  rw [BitVec.toNat_xor, e1, e2, IntKind.wrap_i64]
  omega

set_option maxHeartbeats 1000000 in
set_option maxRecDepth 100000 in
theorem pick_calls (w : World) (R : Nat) (ba : Option Addr) (bn bc : Nat) (bs : List Int) (p : Nat) (n : Int) (h : Drw w R ba bn bc bs p) (hp : p ≤ 1000000) (hn : n ≤ 9223372036854775807) :
    Calls Try.prog 29 #[.pointer (some ⟨R, 0, none⟩), .int .i64 n] w (Picked w R ba bn bc bs p n) := by
  have c0 : w.cell? ⟨R, 0, none⟩ = some (.slice ba bn bc) := blk_cell (l := [.slice ba bn bc, .int .i64 (p : Int)]) h.blk rfl
  have c1 : w.cell? ⟨R, 1, none⟩ = some (.int .i64 (p : Int)) := blk_cell (l := [.slice ba bn bc, .int .i64 (p : Int)]) h.blk rfl
  have f1 : w.frozen? ⟨R, 1, none⟩ = false := blk_free h.blk
  have hs := Sole.set R 1 w (.int .i64 ((p : Int) + 1))
  have hN := Lib.hid (h.next hs h.set)
  have l := h.rd.le
  by_cases hn1 : n < 1
  · have t : decide (n < 1) = true := by simpa using hn1
    go_enter Try.func29, Try.ntmps29
    go_wp2
    go_ret
    exact ⟨0, rfl, .inr rfl, hN.out, hs⟩
  have t : decide (n < 1) = false := by simpa using hn1
  by_cases hb0 : bn = 0
  · have t2 : ((bn : Int) == 0) = true := by simpa using hb0
    have hb0' := Lib.hid hb0
    clear hb0
    go_enter Try.func29, Try.ntmps29
    go_wp2
    go_ret
    exact ⟨0, rfl, .inr rfl, hN.out, hs⟩
  have t2 : ((bn : Int) == 0) = false := by simpa using hb0
  obtain ⟨b, o, rfl, hlt, hc⟩ := h.rd.at (by omega)
  have hbR : b ≠ R := h.off _ rfl
  have hcs : ∀ i, i < bn → (w.setCell ⟨R, 1, none⟩ (.int .i64 ((p : Int) + 1))).cell? ⟨b, o + i, none⟩ = some (.int .u8 (bs.getD i 0)) := fun i hi => by
    rw [World.cell?_of_block (w := w) (hs.block b hbR)]; exact hc i hi
  have hp1 : 1 ≤ bn := by omega
  clear hb0
  by_cases hk : p < bn
  · have hc1 := hcs p hk
    have hlo := h.lo p hk
    clear hcs hc
    generalize bs.getD p 0 = y at hc1 hlo
    go_enter Try.func29, Try.ntmps29
    go_wp2
    go_ret
    have hy1 : 0 ≤ y % n := Int.emod_nonneg _ (by omega)
    have hy2 : y % n < n := Int.emod_lt_of_pos _ (by omega)
    exact ⟨(y % n).toNat, by rw [Int.toNat_of_nonneg hy1]; rfl, .inl (by omega), hN.out, hs⟩
  · have hm1 := Nat.mod_lt p hp1
    have hm2 := Nat.mod_lt (p * 7 + 3) hp1
    have hc1 := hcs _ hm1
    have hc2 := hcs _ hm2
    have hl1 := h.lo _ hm1
    have hl2 := h.lo _ hm2
    clear hcs hc
    generalize bs.getD (p % bn) 0 = y1 at hc1 hl1
    generalize bs.getD ((p * 7 + 3) % bn) 0 = y2 at hc2 hl2
    have hd1 : (0 : Int) ≤ (p : Int) / (bn : Int) := Int.ediv_nonneg (by omega) (by omega)
    have hd2 : (p : Int) / (bn : Int) ≤ 1000000 := by have := Int.ediv_le_self (a := (p : Int)) (bn : Int) (by omega); omega
    have hi1 : (0 : Int) ≤ (p : Int) % (bn : Int) := Int.emod_nonneg _ (by omega)
    have hi2 : (p : Int) % (bn : Int) < (bn : Int) := Int.emod_lt_of_pos _ (by omega)
    have hj1 : (0 : Int) ≤ ((p : Int) * 7 + 3) % (bn : Int) := Int.emod_nonneg _ (by omega)
    have hj2 : ((p : Int) * 7 + 3) % (bn : Int) < (bn : Int) := Int.emod_lt_of_pos _ (by omega)
    go_enter Try.func29, Try.ntmps29
    go_wp2
    go_quiet (fail)
    generalize hX : y1 * 131 + y2 * 1117 + (p : Int) * 29 + (p : Int) / (bn : Int) * 53 = X
    have hX1 : 0 ≤ X := by omega
    have hX2 : X ≤ 1000000000 := by omega
    clear hX hj1 hj2 hi1 hi2 hd1 hd2 hc1 hc2
    go_wp2
    go_ret
    have hz0 := xor_i64_nonneg X (X / 64) hX1 (by omega) (by omega) (by omega)
    generalize bits .xor .i64 X (X / 64) = Z at hz0 ⊢
    have hy1 : 0 ≤ Z.tmod n := Int.tmod_nonneg _ hz0
    have hy2 : Z.tmod n < n := Int.tmod_lt_of_pos _ (by omega)
    exact ⟨(Z.tmod n).toNat, by rw [Int.toNat_of_nonneg hy1]; rfl, .inl (by omega), hN.out.next' nq, hs.drewN nq⟩

end Go.Proofs.Ytmkkkhlalacaiaa

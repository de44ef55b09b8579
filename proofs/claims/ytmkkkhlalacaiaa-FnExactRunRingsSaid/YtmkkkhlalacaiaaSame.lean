/- laws.sameNumbers returns whether two lists of numbers are equal. -/
import Derived.Test.YtmkkkhlalacaiaaProg
import Derived.Test.YtmkkkhlalacaiaaBase
namespace Go.Proofs.Ytmkkkhlalacaiaa
open Go.RowKit
set_option linter.unusedVariables false

theorem take_snoc_ne {xs ys : List Int} {k : Nat} (h1 : k < xs.length) (h2 : k < ys.length) (h : xs.getD k 0 ≠ ys.getD k 0) : xs ≠ ys := by
  rintro rfl; exact h rfl
theorem take_snoc_eq {xs ys : List Int} {k : Nat} (h1 : k < xs.length) (h2 : k < ys.length) (e : xs.take k = ys.take k) (h : xs.getD k 0 = ys.getD k 0) : xs.take (k + 1) = ys.take (k + 1) := by
  rw [List.take_succ_eq_append_getElem h1, List.take_succ_eq_append_getElem h2, e]
  simp [List.getD_eq_getElem?_getD, h1, h2] at h
  rw [h]

set_option maxHeartbeats 400000 in
theorem same_calls (a b : Option Addr) (n c m d : Nat) (xs ys : List Int) (w : World) (h1 : Rd .i64 w a n c xs) (h2 : Rd .i64 w b m d ys) :
    Calls Try.prog 18 #[.slice a n c, .slice b m d] w fun e w' => e = .returned (.bool (decide (xs = ys))) ∧ Below w.heap.size w w' := by
  have l1 := h1.le
  have l2 := h2.le
  by_cases hnm : n = m
  · subst hnm
    have t : ((n : Int) != (n : Int)) = false := by simp
    have e1 := Lib.hid h1.len
    have e2 := Lib.hid h2.len
    go_enter Try.func18, Try.ntmps18
    go_wp2
    go_loopw [13] (fun i wr => ∃ k : Nat, k ≤ n ∧ i = .int .i64 k ∧ Below w.heap.size w wr ∧ Hid (xs.take k = ys.take k)) (fun i _ => n - (intOf i).toNat)
    case atStart => exact ⟨0, Nat.zero_le _, rfl, Below.refl _ _, rfl⟩
    case round =>
      obtain ⟨k, hk, rfl, hb, he⟩ := hrel
      by_cases hlt : k < n
      · obtain ⟨b1, o1, rfl, q1, f1⟩ := (h1.below hb (Nat.le_refl _)).at (by omega)
        obtain ⟨b2, o2, rfl, q2, f2⟩ := (h2.below hb (Nat.le_refl _)).at (by omega)
        have c1 := f1 k hlt
        have c2 := f2 k hlt
        clear f1 f2
        generalize hx : xs.getD k 0 = x at c1
        generalize hy : ys.getD k 0 = y at c2
        have hx' := Lib.hid hx
        have hy' := Lib.hid hy
        clear hx hy
        by_cases hxy : x = y
        · subst hxy
          have t2 : (x != x) = false := by simp
          have hi1 : (0 : Int) ≤ (k : Int) := by omega
          have hi2 : (k : Int) < (n : Int) := by omega
          go_wp2
          go_quiet (fail)
          go_wp2
          go_roundw
          case rel => exact ⟨k + 1, by omega, by go_num, below_drewN hb _, take_snoc_eq (by rw [e1.out]; omega) (by rw [e2.out]; omega) he.out (hx'.out.trans hy'.out.symm)⟩
          case measure => simp [intOf]; omega
        · have t2 : (x != y) = true := by simp [hxy]
          have hi1 : (0 : Int) ≤ (k : Int) := by omega
          have hi2 : (k : Int) < (n : Int) := by omega
          go_wp2
          go_quiet (fail)
          go_wp2
          go_ret
          have hne : xs ≠ ys := take_snoc_ne (k := k) (by rw [e1.out]; omega) (by rw [e2.out]; omega) (by rw [hx'.out, hy'.out]; exact hxy)
          exact ⟨by simp [hne], below_drewN hb _⟩
      · go_wp2
        go_ret
        have he' : xs = ys := by have := he.out; rwa [List.take_of_length_le (by rw [e1.out]; omega), List.take_of_length_le (by rw [e2.out]; omega)] at this
        exact ⟨by simp [he'], hb⟩
  · have t : ((n : Int) != (m : Int)) = true := by simp; omega
    go_enter Try.func18, Try.ntmps18
    go_wp2
    go_ret
    have hne : xs ≠ ys := by rintro rfl; exact hnm (h1.len.symm.trans h2.len)
    exact ⟨by simp [hne], Below.refl _ _⟩

end Go.Proofs.Ytmkkkhlalacaiaa

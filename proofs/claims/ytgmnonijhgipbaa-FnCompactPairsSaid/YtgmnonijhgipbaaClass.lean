/- impl.class and spec.Class: the class of a number. -/
import Derived.Test.YtgmnonijhgipbaaProg
import Derived.Test.YtgmnonijhgipbaaOwn
namespace Go.Proofs.Ytgmnonijhgipbaa
open Go.RowKit
set_option linter.unusedVariables false

/-- The class of a number: the table's element at its remainder, or the number itself. -/
def classI (tb : List Int) (x : Int) : Int := if tb.length = 0 then x else tb.getD (x % (tb.length : Int)).toNat 0
theorem emod_range (x : Int) (n : Nat) (h : 0 < n) : 0 ≤ x % (n : Int) ∧ x % (n : Int) < n := ⟨Int.emod_nonneg _ (by omega), Int.emod_lt_of_pos _ (by omega)⟩
theorem tmod_neg (x : Int) (n : Nat) (h : 0 < n) (hx : x < 0) : (x.tmod (n : Int) = x % (n : Int) - n ∨ (x.tmod (n : Int) = 0 ∧ x % (n : Int) = 0)) ∧ -(n : Int) < x.tmod (n : Int) ∧ x.tmod (n : Int) ≤ 0 := by
  have h1 : -(n : Int) < x.tmod (n : Int) := by
    have := Int.tmod_lt_of_pos (-x) (show 0 < (n : Int) by omega)
    rw [Int.neg_tmod] at this
    omega
  have h2 : x.tmod (n : Int) ≤ 0 := by
    have := Int.tmod_nonneg (n : Int) (show 0 ≤ -x by omega)
    rw [Int.neg_tmod] at this
    omega
  refine ⟨?_, h1, h2⟩
  have hr := emod_range x n h
  have hd1 : (n : Int) ∣ x - x % (n : Int) := Int.dvd_self_sub_emod
  have hd2 : (n : Int) ∣ x - x.tmod (n : Int) := Int.dvd_self_sub_tmod
  have hd3 : (n : Int) ∣ x % (n : Int) - x.tmod (n : Int) := by
    have := Int.dvd_sub hd2 hd1
    rwa [show x - x.tmod (n : Int) - (x - x % (n : Int)) = x % (n : Int) - x.tmod (n : Int) by omega] at this
  obtain ⟨k, hk⟩ := hd3
  by_cases hz : x.tmod (n : Int) = 0
  · right
    refine ⟨hz, ?_⟩
    rw [hz] at hk
    by_cases hk0 : k ≤ 0
    · have : (n : Int) * k ≤ 0 := Int.mul_nonpos_of_nonneg_of_nonpos (by omega) hk0
      omega
    · have : (n : Int) * 1 ≤ (n : Int) * k := Int.mul_le_mul_of_nonneg_left (by omega) (by omega)
      omega
  · left
    by_cases hk0 : k ≤ 0
    · have : (n : Int) * k ≤ 0 := Int.mul_nonpos_of_nonneg_of_nonpos (by omega) hk0
      omega
    · by_cases hk1 : k = 1
      · subst hk1; omega
      · have : (n : Int) * 2 ≤ (n : Int) * k := Int.mul_le_mul_of_nonneg_left (by omega) (by omega)
        omega

set_option maxHeartbeats 400000 in
theorem class_calls (a : Option Addr) (n c : Nat) (tb : List Int) (x : Int) (w : World) (h : Rd .i64 w a n c tb) (hx : -9223372036854775808 ≤ x ∧ x ≤ 9223372036854775807) :
    Calls Try.prog 31 #[.slice a n c, .int .i64 x] w fun e w' => e = .returned (.int .i64 (classI tb x)) ∧ w' = w := by
  have l := h.le
  have hl := Lib.hid h.len
  by_cases hn : n = 0
  · have t : ((n : Int) == 0) = true := by simpa using hn
    have hn' := Lib.hid hn
    clear hn
    go_enter Try.func31, Try.ntmps31
    go_wp2
    go_ret
    have e : tb = [] := List.eq_nil_of_length_eq_zero (by rw [hl.out]; exact hn'.out)
    exact ⟨by simp [classI, e], rfl⟩
  have t : ((n : Int) == 0) = false := by simpa using hn
  obtain ⟨b, o, rfl, _, hc⟩ := h.at (by omega)
  have e0 : tb.length ≠ 0 := by rw [hl.out]; exact hn
  have e1 := emod_range x n (by omega)
  have hcl : Hid (classI tb x = tb.getD (x % (n : Int)).toNat 0) := by
    show _ = _
    unfold classI
    rw [if_neg e0, hl.out]
  have hcx := hc (x % (n : Int)).toNat (by omega)
  clear hc e0
  generalize tb.getD (x % (n : Int)).toNat 0 = y at hcx hcl
  by_cases hx0 : 0 ≤ x
  · have e2 : (0 : Int) ≤ x % (n : Int) := e1.1
    have e3 : x % (n : Int) < (n : Int) := e1.2
    clear e1
    go_enter Try.func31, Try.ntmps31
    go_wp2
    go_ret
    exact ⟨by rw [hcl.out]; rfl, rfl⟩
  · have e4 := tmod_neg x n (by omega) (by omega)
    generalize hq : x.tmod (n : Int) = q at e4
    have hq' : x.tmod (n : Int) = q := hq
    clear hq
    by_cases hq0 : q < 0
    · have e5 : x % (n : Int) = q + n := by omega
      rw [e5] at hcx
      have e6 : (0 : Int) ≤ q + (n : Int) ∧ q + (n : Int) < n := by omega
      clear e4 e1 e5
      go_enter Try.func31, Try.ntmps31
      go_wp2
      go_ret
      exact ⟨by rw [hcl.out]; rfl, rfl⟩
    · obtain ⟨e4a, e4b, e4c⟩ := e4
      have e5 : q = 0 := by omega
      have e6 : x % (n : Int) = 0 := by
        rcases e4a with h1 | h1
        · have := e1.2; omega
        · exact h1.2
      rw [e6] at hcx
      subst e5
      clear e4a e4b e4c e1 e6 hq0
      have hcx' : w.cell? ⟨b, o, none⟩ = some (.int .i64 y) := by simpa using hcx
      have hpos : (0 : Int) < (n : Int) := by omega
      go_enter Try.func31, Try.ntmps31
      go_wp2
      go_ret
      exact ⟨by rw [hcl.out]; rfl, rfl⟩

set_option maxHeartbeats 400000 in
theorem sclass_calls (a : Option Addr) (n c : Nat) (tb : List Int) (x : Int) (w : World) (h : Rd .i64 w a n c tb) (hx : -9223372036854775808 ≤ x ∧ x ≤ 9223372036854775807) :
    Calls Try.prog 18 #[.slice a n c, .int .i64 x] w fun e w' => e = .returned (.int .i64 (classI tb x)) ∧ w' = w := by
  have l := h.le
  have hl := Lib.hid h.len
  by_cases hn : n = 0
  · have t : ((n : Int) == 0) = true := by simpa using hn
    have hn' := Lib.hid hn
    clear hn
    go_enter Try.func18, Try.ntmps18
    go_wp2
    go_ret
    have e : tb = [] := List.eq_nil_of_length_eq_zero (by rw [hl.out]; exact hn'.out)
    exact ⟨by simp [classI, e], rfl⟩
  have t : ((n : Int) == 0) = false := by simpa using hn
  obtain ⟨b, o, rfl, _, hc⟩ := h.at (by omega)
  have e0 : tb.length ≠ 0 := by rw [hl.out]; exact hn
  have e1 := emod_range x n (by omega)
  have hcl : Hid (classI tb x = tb.getD (x % (n : Int)).toNat 0) := by
    show _ = _
    unfold classI
    rw [if_neg e0, hl.out]
  have hcx := hc (x % (n : Int)).toNat (by omega)
  clear hc e0
  generalize tb.getD (x % (n : Int)).toNat 0 = y at hcx hcl
  by_cases hx0 : 0 ≤ x
  · have e2 : (0 : Int) ≤ x % (n : Int) := e1.1
    have e3 : x % (n : Int) < (n : Int) := e1.2
    clear e1
    go_enter Try.func18, Try.ntmps18
    go_wp2
    go_ret
    exact ⟨by rw [hcl.out]; rfl, rfl⟩
  · have e4 := tmod_neg x n (by omega) (by omega)
    generalize hq : x.tmod (n : Int) = q at e4
    have hq' : x.tmod (n : Int) = q := hq
    clear hq
    by_cases hq0 : q < 0
    · have e5 : x % (n : Int) = q + n := by omega
      rw [e5] at hcx
      have e6 : (0 : Int) ≤ q + (n : Int) ∧ q + (n : Int) < n := by omega
      clear e4 e1 e5
      go_enter Try.func18, Try.ntmps18
      go_wp2
      go_ret
      exact ⟨by rw [hcl.out]; rfl, rfl⟩
    · obtain ⟨e4a, e4b, e4c⟩ := e4
      have e5 : q = 0 := by omega
      have e6 : x % (n : Int) = 0 := by
        rcases e4a with h1 | h1
        · have := e1.2; omega
        · exact h1.2
      rw [e6] at hcx
      subst e5
      clear e4a e4b e4c e1 e6 hq0
      have hcx' : w.cell? ⟨b, o, none⟩ = some (.int .i64 y) := by simpa using hcx
      have hpos : (0 : Int) < (n : Int) := by omega
      go_enter Try.func18, Try.ntmps18
      go_wp2
      go_ret
      exact ⟨by rw [hcl.out]; rfl, rfl⟩

end Go.Proofs.Ytgmnonijhgipbaa

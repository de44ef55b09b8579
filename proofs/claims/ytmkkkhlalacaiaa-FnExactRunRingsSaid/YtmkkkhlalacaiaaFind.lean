/- impl.in, spec.Place and spec.Has: whether a number is in a list, and where. -/
import Derived.Test.YtmkkkhlalacaiaaProg
import Derived.Test.YtmkkkhlalacaiaaBase
namespace Go.Proofs.Ytmkkkhlalacaiaa
open Go.RowKit
set_option linter.unusedVariables false

/-- Where a number is in a list, or -1. -/
def placeI (xs : List Int) (x : Int) : Int := if x ∈ xs then (xs.idxOf x : Int) else -1

theorem getD_mem {xs : List Int} {k : Nat} (h : k < xs.length) : xs.getD k 0 ∈ xs := by
  simp [List.getD_eq_getElem?_getD, h]
theorem not_mem_take_succ {xs : List Int} {x : Int} {k : Nat} (h : k < xs.length) (h1 : x ∉ xs.take k) (h2 : xs.getD k 0 ≠ x) : x ∉ xs.take (k + 1) := by
  rw [List.take_succ_eq_append_getElem h, List.mem_append]
  rintro (h3 | h3)
  · exact h1 h3
  · simp [List.getD_eq_getElem?_getD, h] at h2 h3
    exact h2 h3.symm
theorem idxOf_of {xs : List Int} {x : Int} {k : Nat} (h : k < xs.length) (h1 : x ∉ xs.take k) (h2 : xs.getD k 0 = x) : xs.idxOf x = k := by
  have e : xs = xs.take k ++ xs.drop k := (List.take_append_drop k xs).symm
  rw [e, List.idxOf_append, if_neg h1, List.drop_eq_getElem_cons h, List.length_take]
  simp [List.getD_eq_getElem?_getD, h] at h2
  rw [h2, List.idxOf_cons_self]
  omega


set_option maxHeartbeats 400000 in
theorem place_calls (a : Option Addr) (n c : Nat) (xs : List Int) (x : Int) (w : World) (h : Rd .i64 w a n c xs) :
    Calls Try.prog 20 #[.slice a n c, .int .i64 x] w fun e w' => e = .returned (.int .i64 (placeI xs x)) ∧ w = w' := by
  have l := h.le
  have hl := Lib.hid h.len
  go_enter Try.func20, Try.ntmps20
  go_wp2
  go_loop [9] (fun i => ∃ k : Nat, k ≤ n ∧ i = .int .i64 k ∧ Hid (x ∉ xs.take k)) (fun i => n - (intOf i).toNat)
  case atStart => exact ⟨0, Nat.zero_le _, rfl, by show _ ∉ _; simp⟩
  case round =>
    obtain ⟨k, hk, rfl, hno⟩ := hrel
    by_cases hlt : k < n
    · obtain ⟨b, o, rfl, _, f1⟩ := h.at (by omega)
      have c1 := f1 k hlt
      clear f1
      have hkl := Lib.hid (show k < xs.length by rw [hl.out]; exact hlt)
      generalize hy : xs.getD k 0 = y at c1
      have hy' := Lib.hid hy
      clear hy
      by_cases hxy : y = x
      · have t : (y == x) = true := by simp [hxy]
        have hxy' := Lib.hid hxy
        clear hxy
        go_wp2
        go_ret
        have hm : x ∈ xs := by rw [← hxy'.out, ← hy'.out]; exact getD_mem hkl.out
        have hi := idxOf_of hkl.out hno.out (hy'.out.trans hxy'.out)
        exact ⟨by simp [placeI, hm, hi], rfl⟩
      · have t : (y == x) = false := by simp [hxy]
        go_wp2
        go_round
        case rel => exact ⟨k + 1, by omega, by go_num, not_mem_take_succ hkl.out hno.out (by rw [hy'.out]; exact hxy)⟩
        case measure => simp [intOf]; omega
    · go_wp2
      go_ret
      have hm : x ∉ xs := by have := hno.out; rwa [List.take_of_length_le (by rw [hl.out]; omega)] at this
      exact ⟨by simp [placeI, hm], rfl⟩

theorem placeI_nonneg (xs : List Int) (x : Int) : decide (0 ≤ placeI xs x) = decide (x ∈ xs) := by
  unfold placeI; split <;> simp_all
theorem placeI_range (xs : List Int) (x : Int) : -1 ≤ placeI xs x ∧ (placeI xs x < xs.length ∨ xs = []) := by
  unfold placeI; split
  · rename_i h; have := List.idxOf_lt_length_iff.2 h; omega
  · cases xs <;> simp; omega


end Go.Proofs.Ytmkkkhlalacaiaa

/- laws.fits. -/
import Derived.Test.YtmkkkhlalacaiaaMk
import Derived.OpenShut
namespace Go.Proofs.Ytmkkkhlalacaiaa
open Go.RowKit
open Go.Proofs.Ytmkkkhlalacaiaa.Rm
set_option linter.unusedVariables false

/-- Whether rings have an element, and no more than 65536. -/
def fitsB (xs : List Int) (i : Nat) : Bool := decide (tot xs ≤ 65536) && decide (i < tot xs)
theorem getD_memR {xs : List Int} {k : Nat} (h : k < xs.length) : xs.getD k 0 ∈ xs := by rw [List.getD_eq_getElem?_getD, List.getElem?_eq_getElem h]; exact List.getElem_mem _
theorem take_getD {xs : List Int} {k : Nat} (h : k < xs.length) : xs.take (k + 1) = xs.take k ++ [xs.getD k 0] := by
  rw [List.take_add_one, List.getD_eq_getElem?_getD, List.getElem?_eq_getElem h]; rfl

set_option maxHeartbeats 400000 in
theorem fits_calls (w : World) (a : Option Addr) (n c : Nat) (xs : List Int) (i : Nat) (h : Rd .u16 w a n c xs) (hf : ∀ x ∈ xs, (Lit.int .u16 x).wf = true) (hn : n ≤ 140737488351232) (hi : i ≤ 65535) :
    Calls Try.prog 7 #[.slice a n c, .int .u16 (i : Int)] w fun e w' => e = .returned (.bool (fitsB xs i)) ∧ w = w' := by
  have l := h.le
  have h' := Lib.hid h
  have hl := h.len
  clear h
  go_enter Try.func7, Try.ntmps7
  go_wp2
  go_loop [5, 10] (fun s k => ∃ j : Nat, j ≤ n ∧ k = .int .i64 (j : Int) ∧ tot (xs.take j) ≤ 65536 ∧ s = .int .i64 (tot (xs.take j) : Nat)) (fun _ k => n - (intOf k).toNat)
  case atStart => exact ⟨0, Nat.zero_le _, rfl, by simp [tot], rfl⟩
  case round =>
    obtain ⟨j, hj, rfl, hle, rfl⟩ := hrel
    by_cases hlt : j < n
    · obtain ⟨b, off, rfl, _, hcell⟩ := h'.out.at (by omega)
      have hc := hcell j hlt
      clear hcell
      have hbd := Go.bounds_u16 (hf _ (getD_memR (xs := xs) (k := j) (by omega)))
      have htk := take_getD (xs := xs) (k := j) (by omega)
      generalize xs.getD j 0 = x at hc hbd htk
      obtain ⟨m, rfl⟩ := Int.eq_ofNat_of_zero_le hbd.1
      have e1 := tot_snoc (xs.take j) (m : Int)
      rw [← htk] at e1
      have hs : szN (m : Int) = max m 1 := rfl
      rw [hs] at e1
      have e1' := Lib.hid e1
      have hall : Hid (tot (xs.take (j + 1)) ≤ tot xs) := tot_take_le _ _
      clear e1 htk hs
      generalize tot (xs.take j) = M at hle e1' ⊢
      obtain ⟨g, hg, hg2⟩ : ∃ g : Nat, (if (m : Int) < 1 then 1 else (m : Int)) = (g : Int) ∧ max m 1 = g := ⟨max m 1, by split <;> omega, rfl⟩
      rw [hg2] at e1'
      have hgb : g ≤ 65535 := by omega
      clear hg2
      by_cases hbig : 65536 < M + g
      · have hno : Hid (fitsB xs i = false) := by
          have e1 := hall.out; rw [e1'.out] at e1
          show fitsB xs i = false
          simp only [fitsB, Bool.and_eq_false_iff, decide_eq_false_iff_not]; left; omega
        have tb : (65536 : Int) < (M : Int) + (g : Int) := by omega
        by_cases hm1 : (m : Int) < 1
        · rw [if_pos hm1] at hg
          rw [← hg] at tb
          go_wp2
          go_ret
          exact ⟨by rw [hno.out]; rfl, rfl⟩
        · rw [if_neg hm1] at hg
          rw [← hg] at tb
          go_wp2
          go_ret
          exact ⟨by rw [hno.out]; rfl, rfl⟩
      · have tb : ¬ ((65536 : Int) < (M : Int) + (g : Int)) := by omega
        by_cases hm1 : (m : Int) < 1
        · rw [if_pos hm1] at hg
          have hg' := Lib.hid hg
          rw [← hg] at tb
          clear hg
          go_wp2
          go_round
          case rel => exact ⟨j + 1, hlt, by go_num, by rw [e1'.out]; omega, by rw [e1'.out]; congr 1; have := hg'.out; omega⟩
          case measure => simp [intOf]; omega
        · rw [if_neg hm1] at hg
          have hg' := Lib.hid hg
          rw [← hg] at tb
          clear hg
          go_wp2
          go_round
          case rel => exact ⟨j + 1, hlt, by go_num, by rw [e1'.out]; omega, by rw [e1'.out]; congr 1; have := hg'.out; omega⟩
          case measure => simp [intOf]; omega
    · obtain rfl : j = n := by omega
      have q : ¬ ((j : Int) < (j : Int)) := by omega
      have e : xs.take j = xs := List.take_of_length_le (by omega)
      rw [e] at hle ⊢
      go_wp2
      go_ret
      exact ⟨by simp [fitsB, hle], rfl⟩
end Go.Proofs.Ytmkkkhlalacaiaa

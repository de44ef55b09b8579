/- The law FnExactDeleteFunc, walked. -/
import Derived.Test.YtgmnonijhgipbaaDelete
namespace Go.Proofs.Ytgmnonijhgipbaa
open Go.RowKit
set_option linter.unusedVariables false

/-- make([]int, m) -/
theorem run_make_ints (m : Nat) (i j : Int) (hi : i = m) (hj : j = m) (hm : m * 8 ≤ 140737488351232) (u : World) : (Instr.makeSlice 22 (.int .i64 i) (.int .i64 j)).run Try.prog u =
      .ok (.slice (some ⟨u.heap.size, 0, none⟩) m m) (u.alloc (.cells (Array.replicate m (Value.int .i64 0)) 3)) := by
  subst hi; subst hj
  obtain ⟨i0, hi, hz0, hz1, hz2⟩ := info_parts infoInt
  have h := run_make (P := Try.prog) u 22 3 i0 (.int .i64 0) Try.underlying22 hi hz0 .i64 .i64 (m : Int) (m : Int) (by omega) (by omega) (by rw [hz2]; omega) (by omega)
  have e2 : madeCells (Value.int .i64 0).cells m = Array.replicate m (Value.int .i64 0) := by
    have := toList_madeCells_one (.int .i64 0) m
    apply Array.toList_inj.1
    simpa [Value.cells] using this
  rw [Int.toNat_natCast, hz1, Nat.mul_one, e2] at h
  exact h
theorem rd_made (u : World) (m : Nat) (hm : m * 8 ≤ 140737488351232) : Rd .i64 (u.alloc (.cells (Array.replicate m (Value.int .i64 0)) 3)) (some ⟨u.heap.size, 0, none⟩) m m (List.replicate m 0) := by
  refine Rd.blk (l := List.replicate m (Value.int .i64 0)) (t := 3) (fr := (0, 0)) ?_ (by simp) (Nat.le_refl _) (by unfold maxLen; omega) fun i hi => ?_
  · rw [heap_alloc_new, List.toArray_replicate]
  · simp [List.getD_eq_getElem?_getD, hi]

set_option maxHeartbeats 1000000 in
theorem fnExactDeleteFunc_walk (a0 : Option Addr) (n0 c0 : Nat) (x0 : List Int) (a1 : Option Addr) (n1 c1 : Nat) (x1 : List Int) (w : World)
    (h0 : Rd .i64 w a0 n0 c0 x0) (f0 : ∀ x ∈ x0, (Lit.int .i64 x).wf = true) (s0 : c0 * 8 ≤ 140737488351232) (h1 : Rd .i64 w a1 n1 c1 x1) (f1 : ∀ x ∈ x1, (Lit.int .i64 x).wf = true) (s1 : c1 * 8 ≤ 140737488351232) (d1 : ∀ ad, a1 = some ad → ad.block < w.heap.size) :
    Calls Try.prog 8 #[.slice a0 n0 c0, .slice a1 n1 c1] w fun e w' => e = .returned (.bool true) ∧ Below w.heap.size w w' := by
  have l := h0.le
  have hlen := Lib.hid h0.len
  clear f0 f1
  have d1' := Lib.hid d1
  clear d1
  have hq := fun u => Lib.run_eql_slice_nil (P := Try.prog) u 22 3 a0 n0 c0 0 0 Try.underlying22
  go_enter Try.func8, Try.ntmps8
  go_wp2_with fail
  refine (delete_calls w a0 n0 c0 x0 a1 n1 c1 x1 h0 h1 (by omega) d1'.out).mono ?_
  rintro e w1 ⟨b1, m1, e1, b2, m2, e2, rfl, hr1, hr2, hn, hcc, hb1⟩
  go_wp2_with fail
  refine (without_calls w1 a0 n0 c0 x0 a1 n1 c1 x1 (h0.below hb1 (Nat.le_refl _)) (h1.below hb1 (Nat.le_refl _)) (by omega)).mono ?_
  rintro e w2 ⟨b3, m3, e3, rfl, hr3, hb2⟩
  have hb3 := hb1.trans (hb2.mono hb1.size)
  have hle := without_le x1 x0
  have hm3 := hr3.len
  generalize hys : without x1 x0 = ys at hr1 hr2 hr3 hle hm3
  clear hys
  have hle2 : ys.length ≤ n0 := by have := hlen.out; omega
  clear hle
  obtain rfl : ys.length = m3 := hm3
  go_wp2_with fail
  refine (same_calls _ _ _ _ _ _ _ _ _ (hr1.below hb2 (Nat.le_refl _)) hr3).mono ?_
  rintro e w3 ⟨rfl, hb4⟩
  simp only [decide_true]
  have hb5 := hb3.trans (hb4.mono hb3.size)
  have hmk := run_make_ints (n0 - ys.length) ((n0 : Int) - (ys.length : Int)) ((n0 : Int) - (ys.length : Int)) (by omega) (by omega) (by omega)
  have hb6 : Below w3.heap.size w3 (w3.alloc (.cells (Array.replicate (n0 - ys.length) (Value.int .i64 0)) 3)) := (Below.refl _ _).alloc (Nat.le_refl _) _
  have hR1 := Lib.hid (((hr2.below hb2 (Nat.le_refl _)).below hb4 (Nat.le_refl _)).below hb6 (Nat.le_refl _))
  have hR2 := Lib.hid (rd_made w3 (n0 - ys.length) (by omega))
  have hb7 := hb5.trans (hb6.mono hb5.size)
  clear hr1 hr2 hr3 hb6 hb5 hb4 hb3 hb2 hb1
  go_wp2_with fail
  refine (same_calls _ _ _ _ _ _ _ _ _ hR1.out hR2.out).mono ?_
  rintro e w4 ⟨rfl, hb8⟩
  simp only [decide_true]
  have hb9 := hb7.trans (hb8.mono hb7.size)
  clear hR1 hR2 hb7 hb8 hmk
  cases ha : a0.isNone
  all_goals
    rw [ha] at hq
    clear ha hn
    go_wp2
    go_ret
    exact ⟨rfl, hb9⟩

end Go.Proofs.Ytgmnonijhgipbaa

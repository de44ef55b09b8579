/- The laws FnExactGrow and FnExactGrowNil, walked. -/
import Derived.Test.YtmhkffjbmdhekaaGrow
namespace Go.Proofs.Ytmhkffjbmdhekaa
open Go.RowKit
set_option linter.unusedVariables false

set_option maxHeartbeats 1000000 in
theorem fnExactGrow_walk (a0 : Option Addr) (n0 c0 : Nat) (x0 : List Int) (m1 : Nat) (i2 : Int) (w : World) (h0 : Rd .i64 w a0 n0 c0 x0) (f0 : ∀ x ∈ x0, (Lit.int .i64 x).wf = true) (s0 : c0 * 8 ≤ 140737488351232) (h1 : m1 ≤ 65535)
    (h2 : -9223372036854775808 ≤ i2 ∧ i2 ≤ 9223372036854775807) :
    Calls Try.prog 7 #[.slice a0 n0 c0, .int .u16 (m1 : Int), .int .i64 i2] w fun e w' => e = .returned (.bool true) ∧ Below w.heap.size w w' := by
  have l := h0.le
  clear f0
  by_cases hbig : 1048576 < i2
  · go_enter Try.func7, Try.ntmps7
    go_wp2
    go_ret
    exact ⟨rfl, Below.refl _ _⟩
  by_cases hneg : i2 < 0
  · have hnot : ∀ (x : Bool) (w : World), (Op.unary .not (.bool x)).run Try.prog w = .ok (.bool (!x)) w := fun _ _ => rfl
    go_enter Try.func7, Try.ntmps7
    go_wp2_with fail
    refine (grow_neg a0 n0 c0 m1 i2 x0 w h0 s0 h1 hneg).mono ?_
    rintro e w1 ⟨rfl, hb⟩
    go_wp2
    go_ret
    exact ⟨rfl, hb⟩
  obtain ⟨d, rfl⟩ := Int.eq_ofNat_of_zero_le (show 0 ≤ i2 by omega)
  go_enter Try.func7, Try.ntmps7
  go_wp2_with fail
  refine (grow_calls a0 n0 c0 m1 d x0 w h0 s0 h1 (by omega)).mono ?_
  rintro e w1 ⟨a', c', rfl, g1, g2, g3, g4, g5⟩
  have g1' := Lib.hid g1
  have t2 : decide ((d : Int) ≤ (c' : Int) - (n0 : Int)) = true := by simp; omega
  have t1 : ∀ q : Int, q = (c' : Int) - (n0 : Int) → True := fun _ _ => trivial
  clear g1 t1
  have hge : (d : Int) ≤ (c' : Int) - (n0 : Int) := by omega
  by_cases hroom : d ≤ m1
  · obtain ⟨e1, _⟩ := g4 hroom
    clear g4
    have t3 : decide ((m1 : Int) < (d : Int)) = false := by simp; omega
    have t4 : ((c' : Int) - (n0 : Int) == (m1 : Int)) = true := by simp; omega
    have e1' := Lib.hid e1
    clear e1
    go_wp2_with fail
    refine (same_calls _ _ _ _ _ _ _ _ _ g1'.out (h0.below g5 (Nat.le_refl _))).mono ?_
    rintro e w2 ⟨rfl, hb2⟩
    simp only [decide_true]
    have hb3 := g5.trans (hb2.mono g5.size)
    go_wp2
    go_ret
    exact ⟨rfl, hb3⟩
  · clear g4
    have t3 : decide ((m1 : Int) < (d : Int)) = true := by simp; omega
    go_wp2_with fail
    refine (same_calls _ _ _ _ _ _ _ _ _ g1'.out (h0.below g5 (Nat.le_refl _))).mono ?_
    rintro e w2 ⟨rfl, hb2⟩
    simp only [decide_true]
    have hb3 := g5.trans (hb2.mono g5.size)
    go_wp2
    go_ret
    exact ⟨rfl, hb3⟩

set_option maxHeartbeats 1000000 in
theorem fnExactGrowNil_walk (a0 : Option Addr) (n0 c0 : Nat) (x0 : List Int) (m1 : Nat) (w : World) (h0 : Rd .i64 w a0 n0 c0 x0) (f0 : ∀ x ∈ x0, (Lit.int .i64 x).wf = true) (s0 : c0 * 8 ≤ 140737488351232) (h1 : m1 ≤ 65535) :
    Calls Try.prog 8 #[.slice a0 n0 c0, .int .u16 (m1 : Int)] w fun e w' => e = .returned (.bool true) ∧ Below w.heap.size w w' := by
  have l := h0.le
  clear f0
  have hq := fun u => Lib.run_eql_slice_nil (P := Try.prog) u 22 3 a0 n0 c0 0 0 Try.underlying22
  go_enter Try.func8, Try.ntmps8
  go_wp2_with fail
  refine (grow_calls a0 n0 c0 m1 0 x0 w h0 s0 h1 (by omega)).mono ?_
  rintro e w1 ⟨a', c', rfl, g1, g2, g3, g4, g5⟩
  obtain ⟨_, e2⟩ := g4 (by omega)
  have e3 : a'.isNone = (a0.isNone && decide (m1 = 0)) := by
    rw [Bool.eq_iff_iff, e2]; simp
  rw [e3]
  clear g1 g4 e2 e3
  cases ha : a0.isNone
  · rw [ha] at hq
    clear ha
    go_wp2
    go_ret
    exact ⟨rfl, g5⟩
  · rw [ha] at hq
    clear ha
    by_cases hm : m1 = 0
    · subst hm
      go_wp2
      go_ret
      exact ⟨rfl, g5⟩
    · have t : ((m1 : Int) == 0) = false := by simp [hm]
      have t' : decide (m1 = 0) = false := by simp [hm]
      rw [t']
      clear hm t'
      go_wp2
      go_ret
      exact ⟨rfl, g5⟩

end Go.Proofs.Ytmhkffjbmdhekaa

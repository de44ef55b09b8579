/- impl.NewLen, and the laws on it. -/
import Derived.Test.YtephjcbjhblmeaaNew
import Derived.Test.YtephjcbjhblmeaaMove
namespace Go.Proofs.Ytephjcbjhblmeaa
open Go.RowKit
open Go.Proofs.Ytephjcbjhblmeaa.Rm
set_option linter.unusedVariables false

theorem c_path (n : Nat) : ∀ k s : Nat, s + k = n → 1 ≤ k → Path (cnx n) s (List.range' s k) 0
  | 0, _, _, h => by omega
  | 1, s, h, _ => by simp [Path, cnx, h]
  | k + 2, s, h, _ => by
    have ih := c_path n (k + 1) (s + 1) (by omega) (by omega)
    refine ⟨rfl, ?_⟩
    rw [show cnx n s = s + 1 by unfold cnx; rw [if_neg (by omega)]]
    exact ih
theorem c_ring (n : Nat) (hn : 1 ≤ n) : Rm.Ring (cnx n) 0 (List.range' 0 n) :=
  ⟨c_path n n 0 (by omega) hn, List.nodup_range', by simp; omega⟩

/-- What impl.NewLen comes to. -/
def NewLenPost (w : World) (m : Nat) (b : Bool) (e : Ending) (w' : World) : Prop :=
  e = .returned (.tuple #[.int .i64 (m : Int), .bool b]) ∧ Below w.heap.size w w'
theorem newLen_none (w : World) (n : Int) (hn : n ≤ 0) :
    Calls Try.prog 12 #[.int .i64 n] w (NewLenPost w 0 true) := by
  go_enter Try.func12, Try.ntmps12
  go_wp2_with fail
  refine (new_none w n hn).mono ?_
  rintro e w1 ⟨rfl, rfl⟩
  go_wp2_with fail
  refine (len_nil w).mono ?_
  rintro e w1 ⟨rfl, rfl⟩
  go_wp2
  go_ret2
  exact ⟨rfl, Below.refl _ _⟩
theorem newLen_calls (w : World) (n : Nat) (hn : 1 ≤ n) (hm : n ≤ 1000000000) :
    Calls Try.prog 12 #[.int .i64 (n : Int)] w (NewLenPost w n false) := by
  go_enter Try.func12, Try.ntmps12
  go_wp2_with fail
  refine (new_calls w n hn hm).mono ?_
  rintro e w1 ⟨rfl, h1, h2, h3, h4⟩
  have hr := c_ring n hn
  have hl := len_calls w1 _ n _ _ _ 0 _ h2 (by omega) hr (by simpa using hm)
  simp only [List.length_range', Nat.add_zero] at hl
  have hR : ∀ w2, RSame (fun k => w.heap.size + k) n w1 w2 → Below w.heap.size w w2 := fun w2 h => h4.trans (h.below (fun i _ => Nat.le_add_right _ _))
  clear h1 h2 h3 h4
  go_wp2_with fail
  refine hl.mono ?_
  rintro e w2 ⟨rfl, _, hs⟩
  have hb := hR _ hs
  clear hs hR hl
  go_wp2
  go_ret2
  exact ⟨rfl, hb⟩

theorem fnExactNewLen_walk (i0 : Int) (w : World) (h0 : -9223372036854775808 ≤ i0 ∧ i0 ≤ 9223372036854775807) :
    Calls Try.prog 3 #[.int .i64 i0] w fun e w' => e = .returned (.bool true) ∧ Below w.heap.size w w' := by
  by_cases hneg : i0 < 0
  · go_enter Try.func3, Try.ntmps3
    go_wp2
    go_ret
    exact ⟨rfl, Below.refl _ _⟩
  by_cases hbig : 1048576 < i0
  · go_enter Try.func3, Try.ntmps3
    go_wp2
    go_ret
    exact ⟨rfl, Below.refl _ _⟩
  obtain ⟨d, rfl⟩ := Int.eq_ofNat_of_zero_le (show 0 ≤ i0 by omega)
  by_cases hz : d = 0
  · subst hz
    go_enter Try.func3, Try.ntmps3
    go_wp2_with fail
    refine (newLen_none w 0 (by omega)).mono ?_
    rintro e w1 ⟨rfl, hb⟩
    go_wp2
    go_ret
    exact ⟨rfl, hb⟩
  · have t : ((d : Int) == 0) = false := by simp; omega
    have t2 : decide ((d : Int) = 0) = false := by simp; omega
    go_enter Try.func3, Try.ntmps3
    go_wp2_with fail
    refine (newLen_calls w d (by omega) (by omega)).mono ?_
    rintro e w1 ⟨rfl, hb⟩
    go_wp2
    go_ret
    exact ⟨rfl, hb⟩

theorem fnExactNewNone_walk (i0 : Int) (w : World) (h0 : -9223372036854775808 ≤ i0 ∧ i0 ≤ 9223372036854775807) :
    Calls Try.prog 4 #[.int .i64 i0] w fun e w' => e = .returned (.bool true) ∧ Below w.heap.size w w' := by
  by_cases hneg : 0 ≤ i0
  · have hw : IntKind.i64.wrap (-1 - i0) = -1 - i0 := IntWalk.i64_in _ (by omega)
    go_enter Try.func4, Try.ntmps4
    go_wp2_with fail
    refine (newLen_none w (-1 - i0) (by omega)).mono ?_
    rintro e w1 ⟨rfl, hb⟩
    go_wp2
    go_ret
    exact ⟨rfl, hb⟩
  · go_enter Try.func4, Try.ntmps4
    go_wp2_with fail
    refine (newLen_none w i0 (by omega)).mono ?_
    rintro e w1 ⟨rfl, hb⟩
    go_wp2
    go_ret
    exact ⟨rfl, hb⟩
end Go.Proofs.Ytephjcbjhblmeaa

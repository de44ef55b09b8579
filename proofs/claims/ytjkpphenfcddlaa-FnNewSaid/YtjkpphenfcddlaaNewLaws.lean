/- impl.NewLen, and the laws on it. -/
import Derived.Test.YtjkpphenfcddlaaNew
import Derived.Test.YtjkpphenfcddlaaMove
namespace Go.Proofs.Ytjkpphenfcddlaa
open Go.RowKit
open Go.Proofs.Ytjkpphenfcddlaa.Rm
set_option linter.unusedVariables false

theorem c_path (n : Nat) : ∀ k s : Nat, s + k = n → 1 ≤ k → Path (cnx n) s (List.range' s k) 0
  | 0, _, _, h => by omega
  | 1, s, h, _ => by simp [Path, cnx, h]
  | k + 2, s, h, _ => by
    have ih := c_path n (k + 1) (s + 1) (by omega) (by omega)
    refine ⟨rfl, ?_⟩
    rw [show cnx n s = s + 1 by unfold cnx; rw [if_neg (by omega)]]
    exact ih
theorem c_ring (n : Nat) (hn : 1 ≤ n) : Rm.Ring (cnx n) 0 (List.range' 0 n) :=
  ⟨c_path n n 0 (by omega) hn, List.nodup_range', by simp; omega⟩

/-- What impl.NewLen comes to. -/
def NewLenPost (w : World) (m : Nat) (b : Bool) (e : Ending) (w' : World) : Prop :=
  e = .returned (.tuple #[.int .i64 (m : Int), .bool b]) ∧ Below w.heap.size w w'
theorem newLen_none (w : World) (n : Int) (hn : n ≤ 0) :
    Calls Try.prog 29 #[.int .i64 n] w (NewLenPost w 0 true) := by
  go_enter Try.func29, Try.ntmps29
  go_wp2_with fail
  refine (new_none w n hn).mono ?_
  rintro e w1 ⟨rfl, rfl⟩
  go_wp2_with fail
  refine (len_nil w).mono ?_
  rintro e w1 ⟨rfl, rfl⟩
  go_wp2
  go_ret2
  exact ⟨rfl, Below.refl _ _⟩
theorem newLen_calls (w : World) (n : Nat) (hn : 1 ≤ n) (hm : n ≤ 1000000000) :
    Calls Try.prog 29 #[.int .i64 (n : Int)] w (NewLenPost w n false) := by
  go_enter Try.func29, Try.ntmps29
  go_wp2_with fail
  refine (new_calls w n hn hm).mono ?_
  rintro e w1 ⟨rfl, h1, h2, h3, h4⟩
  have hr := c_ring n hn
  have hl := len_calls w1 _ n _ _ _ 0 _ h2 (by omega) hr (by simpa using hm)
  simp only [List.length_range', Nat.add_zero] at hl
  have hR : ∀ w2, RSame (fun k => w.heap.size + k) n w1 w2 → Below w.heap.size w w2 := fun w2 h => h4.trans (h.below (fun i _ => Nat.le_add_right _ _))
  clear h1 h2 h3 h4
  go_wp2_with fail
  refine hl.mono ?_
  rintro e w2 ⟨rfl, _, hs⟩
  have hb := hR _ hs
  clear hs hR hl
  go_wp2
  go_ret2
  exact ⟨rfl, hb⟩


end Go.Proofs.Ytjkpphenfcddlaa

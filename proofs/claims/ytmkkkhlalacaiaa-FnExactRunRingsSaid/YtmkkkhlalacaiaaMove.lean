/- (*Ring).Move and (*Ring).Len. -/
import Derived.Test.YtmkkkhlalacaiaaRing
namespace Go.Proofs.Ytmkkkhlalacaiaa
open Go.RowKit
open Go.Proofs.Ytmkkkhlalacaiaa.Rm
set_option linter.unusedVariables false

/-- The element to which a move by n comes. -/
def moved (nx pv : Nat → Nat) (i : Nat) (n : Int) : Nat := if 0 ≤ n then it nx n.toNat i else it pv (-n).toNat i
theorem it_fix {f : Nat → Nat} {i : Nat} (h : f i = i) (k : Nat) : it f k i = i := by
  induction k with
  | zero => rfl
  | succ k ih => simp only [it, h]; exact ih
theorem moved_lt {N : Nat} {nx pv : Nat → Nat} (h : Inv N nx pv) {i : Nat} (hi : i < N) (n : Int) : moved nx pv i n < N := by
  unfold moved; split
  · exact h.it_lt _ hi
  · exact h.flip.it_lt _ hi

set_option maxHeartbeats 400000 in
theorem move_calls (w : World) (Bk : Nat → Nat) (N : Nat) (nx pv : Nat → Nat) (val : Nat → Value) (i : Nat) (n : Int) (h : Rg w Bk N nx pv val) (hi : i < N) (hn : -9223372036854775808 ≤ n ∧ n ≤ 9223372036854775807) :
    Calls Try.prog 34 #[ptr (Bk i), .int .i64 n] w (NextPost w Bk N nx pv val i (moved nx pv i n)) := by
  rcases h.cell i hi with hl | hb
  · have c0 := hl.c0
    have hl' := Lib.hid hl
    have hh := Lib.hid h
    clear hl h
    by_cases hneg : n < 0
    · obtain ⟨m, rfl⟩ : ∃ m : Nat, n = -(m : Int) := ⟨(-n).toNat, by omega⟩
      have hres : Hid (moved nx pv i (-(m : Int)) = it pv m i) := by
        show _ = _
        unfold moved
        rw [if_neg (by omega)]
        congr 1
        omega
      have t0 : decide (-(m : Int) < 0) = true := by simp; omega
      go_enter Try.func34, Try.ntmps34
      go_wp2
      go_loop [0, 1] (fun r v => ∃ k : Nat, k ≤ m ∧ v = .int .i64 ((k : Int) - (m : Int)) ∧ r = ptr (Bk (it pv k i))) (fun _ v => (- intOf v).toNat)
      case atStart => exact ⟨0, Nat.zero_le _, by congr 1; omega, rfl⟩
      case round =>
        clear c0 t0
        obtain ⟨k, hk, rfl, rfl⟩ := hrel
        by_cases hlt : k < m
        · have cc := (hh.out.live_back k hi hl'.out).c1
          rw [← it_last pv] at cc
          generalize Bk (it pv k i) = b at cc
          have q : (k : Int) - (m : Int) < 0 := by omega
          go_wp2
          go_round
          case rel => exact ⟨k + 1, by omega, by congr 1; omega, rfl⟩
          case measure => simp [intOf]; omega
        · obtain rfl : k = m := by omega
          have q : ¬ ((k : Int) - (k : Int) < 0) := by omega
          go_wp2
          go_ret
          exact ⟨by rw [hres.out]; rfl, hh.out, hl'.out, RSame.refl _ _ _⟩
    · obtain ⟨m, rfl⟩ := Int.eq_ofNat_of_zero_le (show 0 ≤ n by omega)
      have hres : Hid (moved nx pv i (m : Int) = it nx m i) := by
        show _ = _
        unfold moved
        rw [if_pos (by omega)]
        simp
      by_cases hm0 : m = 0
      · subst hm0
        go_enter Try.func34, Try.ntmps34
        go_wp2
        go_ret
        exact ⟨by rw [show moved nx pv i 0 = i from by simp [moved, it]]; rfl, hh.out, hl'.out, RSame.refl _ _ _⟩
      have t0 : decide ((m : Int) < 0) = false := by simp
      have t1 : decide ((0 : Int) < (m : Int)) = true := by simp; omega
      have hm1 : (0 : Int) < (m : Int) := by omega
      clear hm0
      go_enter Try.func34, Try.ntmps34
      go_wp2
      go_loop [0, 1] (fun r v => ∃ k : Nat, k ≤ m ∧ v = .int .i64 ((m : Int) - (k : Int)) ∧ r = ptr (Bk (it nx k i))) (fun _ v => (intOf v).toNat)
      case atStart => exact ⟨0, Nat.zero_le _, by simp, rfl⟩
      case round =>
        clear c0 t0 t1
        obtain ⟨k, hk, rfl, rfl⟩ := hrel
        by_cases hlt : k < m
        · have cc := (hh.out.live_it k hi hl'.out).c0
          rw [← it_last nx] at cc
          generalize Bk (it nx k i) = b at cc
          have q : (0 : Int) < (m : Int) - (k : Int) := by omega
          go_wp2
          go_round
          case rel => exact ⟨k + 1, by omega, by congr 1; omega, rfl⟩
          case measure => simp [intOf]; omega
        · obtain rfl : k = m := by omega
          have q : ¬ ((0 : Int) < (k : Int) - (k : Int)) := by omega
          go_wp2
          go_ret
          exact ⟨by rw [hres.out]; rfl, hh.out, hl'.out, RSame.refl _ _ _⟩
  · have c0 : w.cell? ⟨Bk i, 0, none⟩ = some (.pointer none) := blk_cell hb.2.2 rfl
    have hres : Hid (moved nx pv i n = i) := by
      show _ = _
      unfold moved
      split
      · exact it_fix hb.1 _
      · exact it_fix hb.2.1 _
    have hb' := Lib.hid hb
    clear hb
    go_enter Try.func34, Try.ntmps34
    go_wp2_with fail
    refine (init_calls w Bk N nx pv val i h hi hb'.out).mono ?_
    rintro e w1 ⟨rfl, h1, h2, h3⟩
    clear c0
    go_wp2
    go_ret
    exact ⟨by rw [hres.out]; rfl, h1, h2, h3⟩

/-- What Len comes to. -/
def LenPost (w : World) (Bk : Nat → Nat) (N : Nat) (nx pv : Nat → Nat) (val : Nat → Value) (m : Nat) (e : Ending) (w' : World) : Prop :=
  e = .returned (.int .i64 (m : Int)) ∧ Rg w' Bk N nx pv val ∧ RSame Bk N w w'

theorem Ring.it_ne {f : Nat → Nat} {x : Nat} {l : List Nat} (h : Rm.Ring f x l) {k : Nat} (hk : 0 < k) (hlt : k < l.length) : it f k x ≠ x := by
  intro e
  have e1 := h.path.get k hlt
  have e2 := h.path.get 0 h.pos
  rw [e] at e1
  have := (List.getElem?_inj h.pos h.nodup).1 (e2.trans e1.symm)
  omega

set_option maxHeartbeats 400000 in
theorem len_calls (w : World) (Bk : Nat → Nat) (N : Nat) (nx pv : Nat → Nat) (val : Nat → Value) (i : Nat) (l : List Nat) (h : Rg w Bk N nx pv val) (hi : i < N) (hr : Rm.Ring nx i l) (hl : l.length ≤ 1000000000) :
    Calls Try.prog 35 #[ptr (Bk i)] w (LenPost w Bk N nx pv val l.length) := by
  have hr' := Lib.hid hr
  have hp := hr.pos
  clear hr
  generalize hm : l.length = m at hl hp
  have hm' := Lib.hid hm
  clear hm
  go_enter Try.func35, Try.ntmps35
  go_wp2_with fail
  refine (next_calls w Bk N nx pv val i h hi).mono ?_
  rintro e w1 ⟨rfl, h1, h2, h3⟩
  have hh := Lib.hid h1
  have hl' := Lib.hid h2
  have h3' := Lib.hid h3
  clear h1 h2 h3 h
  go_wp2
  go_loop [3, 4] (fun n p => ∃ k : Nat, 1 ≤ k ∧ k ≤ m ∧ n = .int .i64 (k : Int) ∧ p = ptr (Bk (it nx k i))) (fun n _ => m - (intOf n).toNat)
  case atStart => exact ⟨1, Nat.le_refl _, hp, rfl, rfl⟩
  case round =>
    obtain ⟨k, hk1, hk, rfl, rfl⟩ := hrel
    by_cases hlt : k < m
    · have hne : it nx k i ≠ i := Ring.it_ne hr'.out (by omega) (by rw [hm'.out]; exact hlt)
      have tq := (hh.out.ptr_eq (hh.out.inv.it_lt k hi) hi).2
      rw [show (!decide (it nx k i = i)) = true by simp [hne]] at tq
      clear hne
      have cc := (hh.out.live_it k hi hl'.out).c0
      rw [← it_last nx] at cc
      generalize Bk (it nx k i) = b at cc tq
      go_wp2
      go_round
      case rel => exact ⟨k + 1, by omega, by omega, by go_num, rfl⟩
      case measure => simp [intOf]; omega
    · obtain rfl : k = m := by omega
      have e : it nx k i = i := by have := hr'.out.it_len; rwa [hm'.out] at this
      rw [e]
      clear e
      have tq := (hh.out.ptr_eq hi hi).2
      simp only [decide_true, Bool.not_true] at tq
      go_wp2
      go_ret
      exact ⟨rfl, hh.out, h3'.out⟩

theorem len_nil (w : World) :
    Calls Try.prog 35 #[.pointer none] w fun e w' => e = .returned (.int .i64 0) ∧ w = w' := by
  go_enter Try.func35, Try.ntmps35
  go_wp2
  go_ret
  exact ⟨rfl, rfl⟩

end Go.Proofs.Ytmkkkhlalacaiaa

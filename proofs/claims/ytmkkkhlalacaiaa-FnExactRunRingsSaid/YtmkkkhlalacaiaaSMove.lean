/- (spec.Rings).Move, and what the laws on one element share. -/
import Derived.Test.YtmkkkhlalacaiaaFrom
import Derived.Test.YtmkkkhlalacaiaaIdx
namespace Go.Proofs.Ytmkkkhlalacaiaa
open Go.RowKit
open Go.Proofs.Ytmkkkhlalacaiaa.Rm
set_option linter.unusedVariables false

theorem emod_of_tmod (z : Int) (L : Nat) (hL : 0 < L) : z % (L : Int) = if z.tmod (L : Int) < 0 then z.tmod (L : Int) + (L : Int) else z.tmod (L : Int) := by
  have h1 := Int.emod_nonneg z (show (L : Int) ≠ 0 by omega)
  have h2 := Int.emod_lt_of_pos z (show (0 : Int) < L by omega)
  have h3 := Int.emod_add_mul_ediv z (L : Int)
  have h4 := Int.tmod_add_mul_tdiv z (L : Int)
  rw [Int.tmod_eq_emod]
  split <;> split <;> omega

set_option maxHeartbeats 400000 in
theorem smove_calls (w : World) (a : Option Addr) (n c : Nat) (t : List (List Nat)) (i : Nat) (z : Int) (h : Rr w a n c t) (hn : n ≤ 100000) (hl : ∀ l, l ∈ t → l.length ≤ 100000) (hi : i ≤ 100000) (hp : 0 < (from' t i).length) (hq : (from' t i).length ≤ 100000) (hz : -9223372036854775808 ≤ z ∧ z ≤ 9223372036854775807) :
    Calls Try.prog 14 #[.slice a n c, .int .i64 (i : Int), .int .i64 z] w (NumPost w (mv t i z : Nat)) := by
  go_enter Try.func14, Try.ntmps14
  go_wp2_with fail
  refine (from_calls w a n c t i h hn hl hi).mono ?_
  rintro e w1 ⟨a1, n1, c1, rfl, hr, hb⟩
  have hlen := hr.len
  rw [nats_length] at hlen
  have hem := emod_of_tmod z n1 (by omega)
  have hr1 := Int.emod_nonneg z (show (n1 : Int) ≠ 0 by omega)
  have hr2 := Int.emod_lt_of_pos z (show (0 : Int) < n1 by omega)
  obtain ⟨k, hk⟩ := Int.eq_ofNat_of_zero_le hr1
  have hle := hr.le
  obtain ⟨b, off, rfl, hbl, hcell⟩ := hr.at (by omega)
  have hc := hcell k (by omega)
  have hval : Hid ((nats (from' t i)).getD k 0 = (mv t i z : Nat)) := by
    show _ = _
    unfold mv
    rw [hlen, hk, Int.toNat_natCast, nats_getD _ _ (by omega), List.getD_eq_getElem?_getD, List.getElem?_eq_getElem (by omega)]
    rfl
  rw [hval.out] at hc
  have hb' := Lib.hid hb
  have hkl : k < n1 := by omega
  rw [hk] at hem
  clear hr hcell h hl hk hr1 hr2 hlen hq hp hb hval
  have hz0 : ¬ ((n1 : Int) = 0) := by omega
  by_cases hneg : z.tmod (n1 : Int) < 0
  · rw [if_pos hneg] at hem
    rw [show k = (z.tmod (n1 : Int) + (n1 : Int)).toNat by omega] at hc
    have q1 : 0 ≤ z.tmod (n1 : Int) + (n1 : Int) := by omega
    have q2 : z.tmod (n1 : Int) + (n1 : Int) < (n1 : Int) := by omega
    clear hem hkl
    go_wp2
    go_ret
    exact ⟨rfl, hb'.out⟩
  · rw [if_neg hneg] at hem
    rw [show k = (z.tmod (n1 : Int)).toNat by omega] at hc
    have q1 : 0 ≤ z.tmod (n1 : Int) := by omega
    have q2 : z.tmod (n1 : Int) < (n1 : Int) := by omega
    clear hem hkl
    go_wp2
    go_ret
    exact ⟨rfl, hb'.out⟩

/-- The rings of some sizes, made: what all uses of them ask. -/
theorem mkFrom_len (M : Nat) (xs : List Int) : ∀ l, l ∈ mkFrom M xs → l.length ≤ tot xs := by
  induction xs generalizing M with
  | nil => intro l h; cases h
  | cons x xs ih =>
    intro l h
    have e : tot (x :: xs) = szN x + tot xs := by simp [tot]
    rcases List.mem_cons.1 h with rfl | h
    · simp; omega
    · have := ih _ l h; omega
theorem mk_len (xs : List Int) : ∀ l, l ∈ mk xs → l.length ≤ tot xs := mkFrom_len 0 xs
/-- There are next elements as the rings tell. -/
theorem rep_mk (xs : List Int) : ∃ nx pv, Inv (tot xs) nx pv ∧ Rep (tot xs) nx (mk xs) := by
  have key : ∀ k, k ≤ xs.length → ∃ nx pv, Inv (tot (xs.take k)) nx pv ∧ Rep (tot (xs.take k)) nx (mk (xs.take k)) := by
    intro k
    induction k with
    | zero => intro _; exact ⟨id, id, ⟨fun i h => h, fun i h => h, fun i h => rfl, fun i h => rfl⟩, rep_none _⟩
    | succ k ih =>
      intro hk
      obtain ⟨nx, pv, h1, h2⟩ := ih (by omega)
      rw [take_getD (by omega), tot_snoc, mk_snoc]
      exact ⟨_, _, j_inv h1 _ (szN_pos _), j_rep h2 _ (szN_pos _)⟩
  have := key xs.length (Nat.le_refl _)
  rwa [List.take_length] at this
theorem from_mk_pos (xs : List Int) {i : Nat} (hi : i < tot xs) : 0 < (from' (mk xs) i).length := by
  obtain ⟨nx, pv, _, h⟩ := rep_mk xs
  exact (h.from_ring hi).pos
theorem from_mk_le (xs : List Int) {i : Nat} (hi : i < tot xs) : (from' (mk xs) i).length ≤ tot xs := by
  obtain ⟨nx, pv, _, h⟩ := rep_mk xs
  exact h.len_le hi
theorem mv_mk_lt (xs : List Int) {i : Nat} (hi : i < tot xs) (z : Int) : mv (mk xs) i z < tot xs := by
  obtain ⟨nx, pv, h1, h⟩ := rep_mk xs
  exact h.mv_lt h1 hi z
/-- Made, then Move. -/
theorem Rr.move {w : World} {a : Option Addr} {n c : Nat} {xs : List Int} (h : Rr w a n c (mk xs)) (ht : tot xs ≤ 65536) {i : Nat} (hi : i < tot xs) (z : Int) (hz : -9223372036854775808 ≤ z ∧ z ≤ 9223372036854775807) :
    Calls Try.prog 14 #[.slice a n c, .int .i64 (i : Int), .int .i64 z] w (NumPost w (mv (mk xs) i z : Nat)) := by
  have h1 := h.1
  rw [mk_length] at h1
  have h2 := tot_len xs
  exact smove_calls w a n c (mk xs) i z h (by omega) (fun l hl => by have := mk_len xs l hl; omega) (by omega) (from_mk_pos xs hi) (by have := from_mk_le xs hi; omega) hz
theorem Rr.from {w : World} {a : Option Addr} {n c : Nat} {xs : List Int} (h : Rr w a n c (mk xs)) (ht : tot xs ≤ 65536) {i : Nat} (hi : i < tot xs) :
    Calls Try.prog 25 #[.slice a n c, .int .i64 (i : Int)] w (ListOut w (nats (from' (mk xs) i))) := by
  have h1 := h.1
  rw [mk_length] at h1
  have h2 := tot_len xs
  exact from_calls w a n c (mk xs) i h (by omega) (fun l hl => by have := mk_len xs l hl; omega) (by omega)
end Go.Proofs.Ytmkkkhlalacaiaa

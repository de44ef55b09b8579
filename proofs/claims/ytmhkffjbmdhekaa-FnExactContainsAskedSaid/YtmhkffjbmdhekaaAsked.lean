/- spec.Asked, and the laws FnExactContainsAsked and FnExactContainsFunc, walked. -/
import Derived.Test.YtmhkffjbmdhekaaContains
import Derived.Test.YtmhkffjbmdhekaaSame
namespace Go.Proofs.Ytmhkffjbmdhekaa
open Go.RowKit
set_option linter.unusedVariables false

/-- What spec.Asked comes to. -/
def AskedPost (w : World) (tb xs : List Int) (e : Ending) (w' : World) : Prop :=
  ∃ a n c, e = .returned (.tuple #[.slice a n c, .bool (anyL tb xs)]) ∧ Rd .i64 w' a n c (askedL tb xs) ∧ Below w.heap.size w w'

set_option maxHeartbeats 400000 in
theorem asked_calls (w : World) (a : Option Addr) (n c : Nat) (xs : List Int) (ta : Option Addr) (tn tc : Nat) (tb : List Int) (hx : Rd .i64 w a n c xs) (ht : Rd .i64 w ta tn tc tb) (hn : n * 8 ≤ 140737488351232) :
    Calls Try.prog 15 #[.slice a n c, .slice ta tn tc] w (AskedPost w tb xs) := by
  have l := hx.le
  have hl := Lib.hid hx.len
  go_enter Try.func15, Try.ntmps15
  go_wp2
  go_loopw [6, 12] (fun v i wr => ∃ k : Nat, k ≤ n ∧ i = .int .i64 k ∧ Own 3 w.heap.size wr v ((xs.take k).map (Value.int .i64)) ∧ Below w.heap.size w wr ∧ Hid (∀ x, x ∈ xs.take k → x ∉ tb)) (fun _ i _ => n - (intOf i).toNat)
  case atStart => exact ⟨0, Nat.zero_le _, rfl, Own.empty _ _ _ (Nat.le_refl _), (Below.refl _ _).alloc (Nat.le_refl _) _, by intro x hx; simp at hx⟩
  case round =>
    obtain ⟨k, hk, rfl, ho, hb, hno⟩ := hrel
    by_cases hlt : k < n
    · obtain ⟨b, o, rfl, hblt, f1⟩ := (hx.below hb (Nat.le_refl _)).at (by omega)
      have c1 := f1 k hlt
      clear f1
      have hkl := Lib.hid (show k < xs.length by rw [hl.out]; exact hlt)
      generalize hy : xs.getD k 0 = y at c1
      have hy' := Lib.hid hy
      clear hy
      have hsz := hb.size
      have hle : ((xs.take k).map (Value.int .i64)).length + 1 ≤ n := by simp; omega
      go_wp2_with (first
        | (at_builtin; refine wpl_push rfl (.tmp 16) (.tmp 18) 22 3 rfl Try.underlying22 infoInt rfl w.heap.size _ _ (.int .i64 y) rfl rfl rfl ho (by unfold maxLen; omega) (by omega) hsz ?_))
      intro v' w1 ho' hp
      have hbp := hp.below hsz (fun k hk => (ho.lt hk).1)
      have hb1 := hb.trans hbp
      have ho2 : Own 3 w.heap.size w1 v' ((xs.take (k + 1)).map (Value.int .i64)) := by rw [← take_getD hkl.out, hy'.out, List.map_append, List.map_take]; exact ho'
      clear ho' hp ho c1 hle hbp hb hsz
      have ho3 := Lib.hid ho2
      clear ho2
      have hrd := Lib.hid (ht.below hb1 (Nat.le_refl _))
      go_wp2_with fail
      refine (has_calls _ _ _ _ _ _ hrd.out).mono ?_
      rintro e w2 ⟨rfl, rfl⟩
      by_cases hm : y ∈ tb
      · have hr := asked_hit tb xs k hkl.out hno.out (by rw [hy'.out]; exact hm)
        simp only [hm, decide_true]
        have hr1 := Lib.hid hr
        clear hm hr
        go_wp2
        go_ret2
        have hq := ho3.out
        rw [← hr1.out.1] at hq
        obtain ⟨a1, n1, c1, rfl, hr2⟩ := hq.rd
        exact ⟨a1, n1, c1, by rw [hr1.out.2]; rfl, hr2, hb1⟩
      · have hno' := Lib.hid (none_succ hkl.out hno.out (by rw [hy'.out]; exact hm))
        simp only [hm, decide_false]
        clear hm
        go_wp2
        go_roundw
        case rel => exact ⟨k + 1, by omega, by go_num, ho3.out, hb1, hno'.out⟩
        case measure => simp [intOf]; omega
    · have he : xs.take k = xs := List.take_of_length_le (by rw [hl.out]; omega)
      have hr := asked_miss tb xs (by have := hno.out; rwa [he] at this)
      rw [he] at ho
      have hr1 := Lib.hid hr
      have ho1 := Lib.hid ho
      clear he hr ho
      go_wp2
      go_ret2
      obtain ⟨a1, n1, c1, rfl, hr2⟩ := ho1.out.rd
      exact ⟨a1, n1, c1, by rw [hr1.out.2]; rfl, by rw [hr1.out.1]; exact hr2, hb⟩

set_option maxHeartbeats 400000 in
theorem fnExactContainsAsked_walk (a0 : Option Addr) (n0 c0 : Nat) (x0 : List Int) (a1 : Option Addr) (n1 c1 : Nat) (x1 : List Int) (w : World)
    (h0 : Rd .i64 w a0 n0 c0 x0) (f0 : ∀ x ∈ x0, (Lit.int .i64 x).wf = true) (s0 : c0 * 8 ≤ 140737488351232) (h1 : Rd .i64 w a1 n1 c1 x1) (f1 : ∀ x ∈ x1, (Lit.int .i64 x).wf = true) (s1 : c1 * 8 ≤ 140737488351232) :
    Calls Try.prog 5 #[.slice a0 n0 c0, .slice a1 n1 c1] w fun e w' => e = .returned (.bool true) ∧ Below w.heap.size w w' := by
  have l := h0.le
  clear f0 f1
  go_enter Try.func5, Try.ntmps5
  go_wp2_with fail
  refine (contains_calls w a0 n0 c0 x0 a1 n1 c1 x1 h0 h1 (by omega)).mono ?_
  rintro e w1 ⟨b1, m1, d1, rfl, hr1, hb1⟩
  go_wp2_with fail
  refine (asked_calls w1 a0 n0 c0 x0 a1 n1 c1 x1 (h0.below hb1 (Nat.le_refl _)) (h1.below hb1 (Nat.le_refl _)) (by omega)).mono ?_
  rintro e w2 ⟨b2, m2, d2, rfl, hr2, hb2⟩
  have hb3 := hb1.trans (hb2.mono hb1.size)
  have t : (anyL x1 x0 == anyL x1 x0) = true := by simp
  go_wp2_with fail
  refine (same_calls _ _ _ _ _ _ _ _ _ (hr1.below hb2 (Nat.le_refl _)) hr2).mono ?_
  rintro e w3 ⟨rfl, hb4⟩
  simp only [decide_true]
  have hb5 := hb3.trans (hb4.mono hb3.size)
  go_wp2
  go_ret
  exact ⟨rfl, hb5⟩

theorem asked_early {tb xs : List Int} {k : Nat} (h : k + 1 < (askedL tb xs).length) : (askedL tb xs).getD k 0 ∉ tb := by
  induction xs generalizing k with
  | nil => simp [askedL] at h
  | cons x l ih =>
    by_cases hx : x ∈ tb
    · simp [askedL, hx] at h
    · simp only [askedL, if_neg hx] at h ⊢
      cases k with
      | zero => simpa using hx
      | succ k => simpa using ih (by simpa using h)

set_option maxHeartbeats 400000 in
theorem fnExactContainsFunc_walk (a0 : Option Addr) (n0 c0 : Nat) (x0 : List Int) (a1 : Option Addr) (n1 c1 : Nat) (x1 : List Int) (w : World)
    (h0 : Rd .i64 w a0 n0 c0 x0) (f0 : ∀ x ∈ x0, (Lit.int .i64 x).wf = true) (s0 : c0 * 8 ≤ 140737488351232) (h1 : Rd .i64 w a1 n1 c1 x1) (f1 : ∀ x ∈ x1, (Lit.int .i64 x).wf = true) (s1 : c1 * 8 ≤ 140737488351232) :
    Calls Try.prog 6 #[.slice a0 n0 c0, .slice a1 n1 c1] w fun e w' => e = .returned (.bool true) ∧ Below w.heap.size w w' := by
  have l := h0.le
  clear f0 f1
  go_enter Try.func6, Try.ntmps6
  go_wp2_with fail
  refine (contains_calls w a0 n0 c0 x0 a1 n1 c1 x1 h0 h1 (by omega)).mono ?_
  rintro e w1 ⟨b1, m1, d1, rfl, hr1, hb1⟩
  go_wp2_with fail
  refine (asked_calls w1 a0 n0 c0 x0 a1 n1 c1 x1 (h0.below hb1 (Nat.le_refl _)) (h1.below hb1 (Nat.le_refl _)) (by omega)).mono ?_
  rintro e w2 ⟨b2, m2, d2, rfl, hr2, hb2⟩
  have hb3 := hb1.trans (hb2.mono hb1.size)
  have t : (anyL x1 x0 == anyL x1 x0) = true := by simp
  have hr3 := hr1.below hb2 (Nat.le_refl _)
  have ht := h1.below hb3 (Nat.le_refl _)
  have lm := hr3.le
  have hml := Lib.hid hr3.len
  clear hr1 hr2 hb1 hb2
  go_wp2
  go_loop [25] (fun i => ∃ k : Nat, k ≤ m1 ∧ i = .int .i64 k) (fun i => m1 - (intOf i).toNat)
  case atStart => exact ⟨0, Nat.zero_le _, rfl⟩
  case round =>
    obtain ⟨k, hk, rfl⟩ := hrel
    by_cases hlt : k < m1
    · obtain ⟨b, o, rfl, hblt, g1⟩ := hr3.at (by omega)
      have cc := g1 k hlt
      clear g1
      generalize hy : (askedL x1 x0).getD k 0 = y at cc
      have hy' := Lib.hid hy
      clear hy
      go_wp2_with fail
      refine (has_calls _ _ _ _ _ _ ht).mono ?_
      rintro e w4 ⟨rfl, rfl⟩
      by_cases hm : y ∈ x1
      · have hlast : ¬ (k : Int) < (m1 : Int) - 1 := by
          intro hq
          refine asked_early (tb := x1) (xs := x0) (k := k) (by rw [hml.out]; omega) ?_
          rw [hy'.out]; exact hm
        simp only [hm, decide_true]
        clear hm
        go_wp2
        go_round
        case rel => exact ⟨k + 1, by omega, by go_num⟩
        case measure => simp [intOf]; omega
      · simp only [hm, decide_false]
        clear hm
        go_wp2
        go_round
        case rel => exact ⟨k + 1, by omega, by go_num⟩
        case measure => simp [intOf]; omega
    · go_wp2
      go_ret
      exact ⟨rfl, hb3⟩

end Go.Proofs.Ytmhkffjbmdhekaa

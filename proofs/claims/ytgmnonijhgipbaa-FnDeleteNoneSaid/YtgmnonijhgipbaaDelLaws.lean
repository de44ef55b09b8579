/- The laws FnDeleteTwice, FnDeleteNone and FnDeleteBoth, walked. -/
import Derived.Test.YtgmnonijhgipbaaDeleteLaw
import Derived.Test.YtgmnonijhgipbaaContains
import Derived.Test.YtgmnonijhgipbaaCode
namespace Go.Proofs.Ytgmnonijhgipbaa
open Go.RowKit
set_option linter.unusedVariables false

theorem without_twice (tb xs : List Int) : without tb (without tb xs) = without tb xs := by simp [without]
theorem any_without (tb xs : List Int) : anyL tb (without tb xs) = false := by simp [without, anyL]
theorem any_iff_less (tb xs : List Int) : anyL tb xs = decide (0 < xs.length - (without tb xs).length) := by
  induction xs with
  | nil => simp [anyL, without]
  | cons x l ih =>
    have hle := without_le tb l
    by_cases hx : x ∈ tb
    · have e : without tb (x :: l) = without tb l := by simp [without, hx]
      rw [e]
      simp [anyL, hx]
      omega
    · have e : without tb (x :: l) = x :: without tb l := by simp [without, hx]
      have e2 : anyL tb (x :: l) = anyL tb l := by simp [anyL, hx]
      rw [e, e2, ih]
      simp
theorem without_nil (xs : List Int) : without [] xs = xs := by simp [without]
theorem without_self (xs : List Int) : without xs xs = [] := by simp [without]
theorem any_self (xs : List Int) : anyL xs xs = decide (0 < xs.length) := by
  cases xs <;> simp [anyL]
theorem any_nil (xs : List Int) : anyL [] xs = false := by simp [anyL]
theorem without_comm (t o xs : List Int) : without t (without o xs) = without o (without t xs) := by
  simp only [without, List.filter_filter]
  congr 1; funext x; exact Bool.and_comm _ _
theorem without_both (t o xs : List Int) : without o (without t xs) = without (t ++ o) xs := by
  simp only [without, List.filter_filter]
  congr 1; funext x
  by_cases h1 : x ∈ t <;> by_cases h2 : x ∈ o <;> simp [h1, h2]

set_option maxHeartbeats 1000000 in
theorem fnDeleteTwice_walk (a0 : Option Addr) (n0 c0 : Nat) (x0 : List Int) (w : World) (h0 : Rd .u8 w a0 n0 c0 x0) (f0 : ∀ x ∈ x0, (Lit.int .u8 x).wf = true) (s0 : c0 * 1 ≤ 140737488351232) (d0 : ∀ ad, a0 = some ad → ad.block < w.heap.size) :
    Calls Try.prog 11 #[.slice a0 n0 c0] w fun e w' => e = .returned (.bool true) ∧ Below w.heap.size w w' := by
  have l := h0.le
  have hB := Lib.hid (bytes_of_wf f0)
  clear f0
  have hd0 := Lib.hid d0
  clear d0
  have hnot : ∀ (x : Bool) (w : World), (Op.unary .not (.bool x)).run Try.prog w = .ok (.bool (!x)) w := fun _ _ => rfl
  go_enter Try.func11, Try.ntmps11
  go_wp2_with fail
  refine (large_calls a0 n0 c0 w (by omega)).mono ?_
  rintro e w1 ⟨rfl, rfl⟩
  by_cases hL : 1048576 < n0
  · simp only [hL, decide_true]
    go_wp2
    go_ret
    exact ⟨rfl, Below.refl _ _⟩
  simp only [hL, decide_false]
  go_wp2_with fail
  refine (drawDelete_calls w a0 n0 c0 x0 h0 hB.out hd0.out).mono ?_
  rintro e w1 ⟨a1, n1, c1, xs, a2, n2, c2, tb, rfl, r1, r2, b1, b2, i1, i2, d1, d2, hb1⟩
  have d2' := Lib.hid d2
  have hl1 := r1.len
  have hq := fun u => Lib.run_eql_slice_nil (P := Try.prog) u 22 3 a1 n1 c1 0 0 Try.underlying22
  clear i1 i2 d1 d2
  have hless := any_iff_less tb xs
  have htw := without_twice tb xs
  have hno := any_without tb xs
  have hle := without_le tb xs
  have hless' := Lib.hid hless
  have htw' := Lib.hid htw
  have hno' := Lib.hid hno
  have hl1' := Lib.hid hl1
  clear hless htw hno hl1
  go_wp2_with fail
  refine (delete_calls w1 a1 n1 c1 xs a2 n2 c2 tb r1 r2 (by omega) d2'.out).mono ?_
  rintro e w2 ⟨b3, m3, e3, b4, m4, e4, rfl, r3, r4, hn3, hc3, hb2⟩
  have q1 := r1.below hb2 (Nat.le_refl _)
  have q2 := r2.below hb2 (Nat.le_refl _)
  have hb3 := hb1.trans (hb2.mono hb1.size)
  have hz2 := hb2.size
  have hm3 := r3.len
  have hm4 := r4.len
  simp only [List.length_replicate] at hm4
  generalize hys : without tb xs = ys at r3 r4 hle hless' htw' hno' hm3 hm4
  have hys' := Lib.hid hys
  clear hys r1 r2 hb1 hb2
  have hm3' := Lib.hid hm3
  have hm4' := Lib.hid hm4
  have hle3 : m3 ≤ 8 := by have := hl1'.out; omega
  have hsum : m3 + m4 = n1 := by have := hl1'.out; omega
  have hsum' := Lib.hid hsum
  clear hm3 hm4 hn3 hle hsum
  go_wp2_with fail
  refine (delete_calls w2 b3 m3 e3 ys a2 n2 c2 tb r3 q2 (by omega) (fun ad e => Nat.lt_of_lt_of_le (d2'.out ad e) hz2)).mono ?_
  rw [htw'.out]
  rintro e w3 ⟨b5, m5, e5, b6, m6, e6, rfl, r5, r6, hn5, hc5, hb4⟩
  have hm6 := r6.len
  simp only [List.length_replicate, hm3'.out, Nat.sub_self] at hm6
  obtain rfl : 0 = m6 := hm6
  have q3 := r3.below hb4 (Nat.le_refl _)
  have q4 := q2.below hb4 (Nat.le_refl _)
  have q5 := q1.below hb4 (Nat.le_refl _)
  have hb5 := hb3.trans (hb4.mono hb3.size)
  clear r6 r3 r4 q1 q2 hb3 hb4 hn5
  go_wp2_with fail
  refine (contains_calls w3 b3 m3 e3 ys a2 n2 c2 tb q3 q4 (by omega)).mono ?_
  rintro e w4 ⟨b7, m7, e7, rfl, r7, hb6⟩
  rw [hno'.out]
  have z3 := q3.below hb6 (Nat.le_refl _)
  have z4 := q4.below hb6 (Nat.le_refl _)
  have z5 := q5.below hb6 (Nat.le_refl _)
  have y5 := r5.below hb6 (Nat.le_refl _)
  have hb7 := hb5.trans (hb6.mono hb5.size)
  clear r7 q3 q4 q5 r5 hb5 hb6
  go_wp2_with fail
  refine (contains_calls w4 a1 n1 c1 xs a2 n2 c2 tb z5 z4 (by omega)).mono ?_
  rintro e w5 ⟨b8, m8, e8, rfl, r8, hb8⟩
  rw [hless'.out]
  have u3 := z3.below hb8 (Nat.le_refl _)
  have u5 := y5.below hb8 (Nat.le_refl _)
  have hb9 := hb7.trans (hb8.mono hb7.size)
  clear r8 z3 z4 z5 y5 hb7 hb8
  have hlt : decide (0 < xs.length - ys.length) = decide ((0 : Int) < (m4 : Int)) := by
    have := hm4'.out; rw [hl1'.out]; rw [← this]; simp
  rw [hlt]
  clear hlt
  go_wp2_with fail
  refine (same_calls _ _ _ _ _ _ _ _ _ u5 u3).mono ?_
  rintro e w6 ⟨rfl, hb10⟩
  simp only [decide_true]
  have hb11 := hb9.trans (hb10.mono hb9.size)
  clear u3 u5 hb9 hb10
  have t1 : ((m3 : Int) + (m4 : Int) == (n1 : Int)) = true := by have := hsum'.out; simp; omega
  have hle4 : m4 ≤ 8 := by have := hsum'.out; omega
  cases ha : a1.isNone
  all_goals
    rw [ha] at hq
    clear ha
    by_cases hp : (0 : Int) < (m4 : Int)
    · go_wp2
      go_ret
      exact ⟨rfl, hb11⟩
    · go_wp2
      go_ret
      exact ⟨rfl, hb11⟩

set_option maxHeartbeats 1000000 in
theorem fnDeleteNone_walk (a0 : Option Addr) (n0 c0 : Nat) (x0 : List Int) (w : World) (h0 : Rd .u8 w a0 n0 c0 x0) (f0 : ∀ x ∈ x0, (Lit.int .u8 x).wf = true) (s0 : c0 * 1 ≤ 140737488351232) (d0 : ∀ ad, a0 = some ad → ad.block < w.heap.size) :
    Calls Try.prog 10 #[.slice a0 n0 c0] w fun e w' => e = .returned (.bool true) ∧ Below w.heap.size w w' := by
  have l := h0.le
  have hB := Lib.hid (bytes_of_wf f0)
  clear f0
  have hd0 := Lib.hid d0
  clear d0
  have hnot : ∀ (x : Bool) (w : World), (Op.unary .not (.bool x)).run Try.prog w = .ok (.bool (!x)) w := fun _ _ => rfl
  go_enter Try.func10, Try.ntmps10
  go_wp2_with fail
  refine (large_calls a0 n0 c0 w (by omega)).mono ?_
  rintro e w1 ⟨rfl, rfl⟩
  by_cases hL : 1048576 < n0
  · simp only [hL, decide_true]
    go_wp2
    go_ret
    exact ⟨rfl, Below.refl _ _⟩
  simp only [hL, decide_false]
  go_wp2_with fail
  refine (drawDelete_calls w a0 n0 c0 x0 h0 hB.out hd0.out).mono ?_
  rintro e w1 ⟨a1, n1, c1, xs, a2, n2, c2, tb, rfl, r1, r2, b1, b2, i1, i2, d1, d2, hb1⟩
  have d1' := Lib.hid d1
  have hl1 := r1.len
  clear i1 i2 d1 d2 r2
  have hl1' := Lib.hid hl1
  clear hl1
  go_wp2_with fail
  refine (delete_calls w1 a1 n1 c1 xs none 0 0 [] r1 (Rd.nil _ _) (by omega) (fun ad e => by cases e)).mono ?_
  rw [without_nil]
  rintro e w2 ⟨b3, m3, e3, b4, m4, e4, rfl, r3, r4, hn3, hc3, hb2⟩
  have hm4 := r4.len
  simp only [List.length_replicate, hl1'.out, Nat.sub_self] at hm4
  obtain rfl : 0 = m4 := hm4
  have q1 := r1.below hb2 (Nat.le_refl _)
  have hb3 := hb1.trans (hb2.mono hb1.size)
  have hz2 := hb2.size
  clear r1 r4 hb1 hb2 hn3
  go_wp2_with fail
  refine (delete_calls w2 a1 n1 c1 xs a1 n1 c1 xs q1 q1 (by omega) (fun ad e => Nat.lt_of_lt_of_le (d1'.out ad e) hz2)).mono ?_
  rw [without_self]
  rintro e w3 ⟨b5, m5, e5, b6, m6, e6, rfl, r5, r6, hn5, hc5, hb4⟩
  have hm5 := r5.len
  obtain rfl : 0 = m5 := hm5
  simp only [List.length_nil, Nat.sub_zero] at r6
  have q3 := r3.below hb4 (Nat.le_refl _)
  have q4 := q1.below hb4 (Nat.le_refl _)
  have hb5 := hb3.trans (hb4.mono hb3.size)
  clear r5 r3 q1 hb3 hb4 hn5
  go_wp2_with fail
  refine (contains_calls w3 a1 n1 c1 xs a1 n1 c1 xs q4 q4 (by omega)).mono ?_
  rintro e w4 ⟨b7, m7, e7, rfl, r7, hb6⟩
  rw [any_self, hl1'.out]
  have z3 := q3.below hb6 (Nat.le_refl _)
  have z4 := q4.below hb6 (Nat.le_refl _)
  have z6 := r6.below hb6 (Nat.le_refl _)
  have hb7 := hb5.trans (hb6.mono hb5.size)
  clear r7 q3 q4 r6 hb5 hb6
  go_wp2_with fail
  refine (contains_calls w4 a1 n1 c1 xs none 0 0 [] z4 (Rd.nil _ _) (by omega)).mono ?_
  rintro e w5 ⟨b8, m8, e8, rfl, r8, hb8⟩
  rw [any_nil]
  have u3 := z3.below hb8 (Nat.le_refl _)
  have u4 := z4.below hb8 (Nat.le_refl _)
  have u6 := z6.below hb8 (Nat.le_refl _)
  have hb9 := hb7.trans (hb8.mono hb7.size)
  clear r8 z3 z4 z6 hb7 hb8
  go_wp2_with fail
  refine (same_calls _ _ _ _ _ _ _ _ _ u3 u4).mono ?_
  rintro e w6 ⟨rfl, hb10⟩
  simp only [decide_true]
  have hb11 := hb9.trans (hb10.mono hb9.size)
  have hmk := run_make_ints n1 (n1 : Int) (n1 : Int) rfl rfl (by omega)
  have hb12 : Below w6.heap.size w6 (w6.alloc (.cells (Array.replicate n1 (Value.int .i64 0)) 3)) := (Below.refl _ _).alloc (Nat.le_refl _) _
  have hR1 := Lib.hid ((u6.below hb10 (Nat.le_refl _)).below hb12 (Nat.le_refl _))
  have hR2 := Lib.hid (rd_made w6 n1 (by omega))
  have hb13 := hb11.trans (hb12.mono hb11.size)
  clear u3 u4 u6 hb9 hb10 hb11 hb12
  go_wp2_with fail
  refine (same_calls _ _ _ _ _ _ _ _ _ hR1.out hR2.out).mono ?_
  rintro e w7 ⟨rfl, hb14⟩
  simp only [decide_true]
  have hb15 := hb13.trans (hb14.mono hb13.size)
  clear hR1 hR2 hb13 hb14 hmk
  by_cases hp : 0 < n1
  · have t : decide ((0 : Int) < (n1 : Int)) = true := by simp; omega
    simp only [hp, decide_true]
    go_wp2
    go_ret
    exact ⟨rfl, hb15⟩
  · have t : decide ((0 : Int) < (n1 : Int)) = false := by simp; omega
    simp only [hp, decide_false]
    go_wp2
    go_ret
    exact ⟨rfl, hb15⟩

set_option maxHeartbeats 2000000 in
theorem fnDeleteBoth_walk (a0 : Option Addr) (n0 c0 : Nat) (x0 : List Int) (w : World) (h0 : Rd .u8 w a0 n0 c0 x0) (f0 : ∀ x ∈ x0, (Lit.int .u8 x).wf = true) (s0 : c0 * 1 ≤ 140737488351232) (d0 : ∀ ad, a0 = some ad → ad.block < w.heap.size) :
    Calls Try.prog 7 #[.slice a0 n0 c0] w fun e w' => e = .returned (.bool true) ∧ Below w.heap.size w w' := by
  have l := h0.le
  have hB := Lib.hid (bytes_of_wf f0)
  clear f0
  have hd0 := Lib.hid d0
  clear d0
  go_enter Try.func7, Try.ntmps7
  go_wp2_with fail
  refine (large_calls a0 n0 c0 w (by omega)).mono ?_
  rintro e w1 ⟨rfl, rfl⟩
  by_cases hL : 1048576 < n0
  · simp only [hL, decide_true]
    go_wp2
    go_ret
    exact ⟨rfl, Below.refl _ _⟩
  simp only [hL, decide_false]
  have hcut := fun u => run_cut_low (P := Try.prog) u 27 5 a0 n0 c0 (n0 / 2) .i64 Try.underlying27 sizeByte ((n0 : Int) / 2) (by omega) (by omega)
  go_wp2_with fail
  refine (drawDelete_calls w a0 n0 c0 x0 h0 hB.out hd0.out).mono ?_
  rintro e w1 ⟨a1, n1, c1, xs, a2, n2, c2, tb, rfl, r1, r2, b1, b2, i1, i2, d1, d2, hb1⟩
  have hc0' := Lib.hid ((h0.below hb1 (Nat.le_refl _)).cut (lo := n0 / 2) (hi := n0) (by omega) (Nat.le_refl _))
  have hcb' := Lib.hid (hB.out.cut (n0 / 2) n0)
  have hcl' : Hid (∀ ad, cutA a0 c0 (n0 / 2) = some ad → ad.block < w1.heap.size) := cutA_lt_blk (fun ad e => Nat.lt_of_lt_of_le (hd0.out ad e) hb1.size)
  have d2' := Lib.hid d2
  clear d1 d2 i1 i2
  go_wp2_with fail
  refine (drawDelete_calls w1 _ _ _ _ hc0'.out hcb'.out hcl'.out).mono ?_
  rintro e w2 ⟨a3, n3, c3, ys, a4, n4, c4, ob, rfl, r3, r4, b3, b4, i3, i4, d3, d4, hb2⟩
  have d2'' : Hid (∀ ad, a2 = some ad → ad.block < w2.heap.size) := fun ad e => Nat.lt_of_lt_of_le (d2'.out ad e) hb2.size
  have d4' := Lib.hid d4
  have q1 := r1.below hb2 (Nat.le_refl _)
  have q2 := r2.below hb2 (Nat.le_refl _)
  have hb3 := hb1.trans (hb2.mono hb1.size)
  have hl1 := Lib.hid r1.len
  have hl2 := Lib.hid r2.len
  have hl4 := Lib.hid r4.len
  clear hc0' hcb' hcl' d2' r1 r2 r3 i3 i4 d3 d4 hb1 hb2 hcut
  -- a = s without table, then without other
  go_wp2_with fail
  refine (delete_calls w2 a1 n1 c1 xs a2 n2 c2 tb q1 q2 (by omega) d2''.out).mono ?_
  rintro e w3 ⟨e1, m1, k1, e2, m2, k2, rfl, s1, s2, hn1, hc1, hb4⟩
  have hm1 : m1 ≤ 8 := by have := s1.len; have := without_le tb xs; have := hl1.out; omega
  have p1 := q1.below hb4 (Nat.le_refl _)
  have p2 := q2.below hb4 (Nat.le_refl _)
  have p4 := r4.below hb4 (Nat.le_refl _)
  have f2 : Hid (∀ ad, a2 = some ad → ad.block < w3.heap.size) := fun ad e => Nat.lt_of_lt_of_le (d2''.out ad e) hb4.size
  have f4 : Hid (∀ ad, a4 = some ad → ad.block < w3.heap.size) := fun ad e => Nat.lt_of_lt_of_le (d4'.out ad e) hb4.size
  have hb5 := hb3.trans (hb4.mono hb3.size)
  clear s2 hn1 q1 q2 r4 d2'' d4' hb3 hb4
  go_wp2_with fail
  refine (delete_calls w3 e1 m1 k1 _ a4 n4 c4 ob s1 p4 (by omega) f4.out).mono ?_
  rintro e w4 ⟨e3, m3, k3, e4, m4, k4, rfl, s3, s4, hn3, hc3, hb6⟩
  have q1 := p1.below hb6 (Nat.le_refl _)
  have q2 := p2.below hb6 (Nat.le_refl _)
  have q4 := p4.below hb6 (Nat.le_refl _)
  have g2 : Hid (∀ ad, a2 = some ad → ad.block < w4.heap.size) := fun ad e => Nat.lt_of_lt_of_le (f2.out ad e) hb6.size
  have g4 : Hid (∀ ad, a4 = some ad → ad.block < w4.heap.size) := fun ad e => Nat.lt_of_lt_of_le (f4.out ad e) hb6.size
  have hb7 := hb5.trans (hb6.mono hb5.size)
  clear s1 s4 hn3 p1 p2 p4 f2 f4 hb5 hb6
  -- b = s without other, then without table
  go_wp2_with fail
  refine (delete_calls w4 a1 n1 c1 xs a4 n4 c4 ob q1 q4 (by omega) g4.out).mono ?_
  rintro e w5 ⟨e5, m5, k5, e6, m6, k6, rfl, s5, s6, hn5, hc5, hb8⟩
  have hm5 : m5 ≤ 8 := by have := s5.len; have := without_le ob xs; have := hl1.out; omega
  have p1 := q1.below hb8 (Nat.le_refl _)
  have p2 := q2.below hb8 (Nat.le_refl _)
  have p4 := q4.below hb8 (Nat.le_refl _)
  have t3 := s3.below hb8 (Nat.le_refl _)
  have f2 : Hid (∀ ad, a2 = some ad → ad.block < w5.heap.size) := fun ad e => Nat.lt_of_lt_of_le (g2.out ad e) hb8.size
  have hb9 := hb7.trans (hb8.mono hb7.size)
  clear s6 hn5 q1 q2 q4 g2 g4 s3 hb7 hb8
  go_wp2_with fail
  refine (delete_calls w5 e5 m5 k5 _ a2 n2 c2 tb s5 p2 (by omega) f2.out).mono ?_
  rintro e w6 ⟨e7, m7, k7, e8, m8, k8, rfl, s7, s8, hn7, hc7, hb10⟩
  have q1 := p1.below hb10 (Nat.le_refl _)
  have q2 := p2.below hb10 (Nat.le_refl _)
  have q4 := p4.below hb10 (Nat.le_refl _)
  have u3 := t3.below hb10 (Nat.le_refl _)
  have hb11 := hb9.trans (hb10.mono hb9.size)
  clear s5 s8 hn7 p1 p2 p4 t3 f2 hb9 hb10
  rw [without_comm] at s7
  rw [without_both] at s7 u3
  -- c = s without both
  have hb12 : Below w6.heap.size w6 (w6.alloc (.cells #[] 3)) := (Below.refl _ _).alloc (Nat.le_refl _) _
  have o1 := Lib.hid (Own.empty 3 w6.heap.size w6 (Nat.le_refl _))
  have v2 := Lib.hid (q2.below hb12 (Nat.le_refl _))
  have hs12 : w6.heap.size ≤ (w6.alloc (.cells #[] 3)).heap.size := hb12.size
  go_wp2_with (first
    | (at_builtin; refine wpl_join rfl (.tmp 62) (.tmp 63) 22 3 rfl Try.underlying22 infoInt rfl w6.heap.size _ [] _ (ints_one .i64 tb) rfl a2 n2 c2 rfl (by simp [hl2.out]) v2.out.2.2.2.1 v2.out.cells o1.out (by simp [maxLen]; omega) (by simp; omega) hs12 ?_))
  intro v1 w7 o2 pu1
  have hb13 : Below w6.heap.size w6 w7 := hb12.trans (pu1.below hs12 (fun k hk => (o1.out.lt hk).1))
  have z4 := q4.below hb13 (Nat.le_refl _)
  have hs13 := hb13.size
  have o2' := Lib.hid o2
  have q1h := Lib.hid q1
  have s7h := Lib.hid s7
  have u3h := Lib.hid u3
  clear o1 v2 pu1 hb12 hs12 o2 q1 q2 q4 s7 u3
  go_wp2_with (first
    | (at_builtin; refine wpl_join rfl (.tmp 64) (.tmp 65) 22 3 rfl Try.underlying22 infoInt rfl w6.heap.size _ _ _ (ints_one .i64 ob) rfl a4 n4 c4 rfl (by simp [hl4.out]) z4.2.2.2.1 z4.cells o2'.out (by simp [maxLen, hl2.out]; omega) (by simp [hl2.out]; omega) hs13 ?_))
  intro v2 w8 o3 pu2
  have hb14 : Below w6.heap.size w6 w8 := hb13.trans (pu2.below hs13 (fun k hk => (o2'.out.lt hk).1))
  rw [← List.map_append] at o3
  have o3l := Lib.hid (fun k hk => (o3.lt (k := k) hk).2)
  obtain ⟨a9, n9, c9, rfl, r9⟩ := o3.rd
  have hb15 := hb11.trans (hb14.mono hb11.size)
  have q1 := q1h.out.below hb14 (Nat.le_refl _)
  have s7 := s7h.out.below hb14 (Nat.le_refl _)
  have u3 := u3h.out.below hb14 (Nat.le_refl _)
  clear o3 pu2 o2' hb13 hb14 hs13 z4 q1h s7h u3h hb11
  go_wp2_with fail
  refine (delete_calls w8 a1 n1 c1 xs a9 n9 c9 (tb ++ ob) q1 r9 (by omega) (fun ad e => o3l.out ad.block (by rw [e]; rfl))).mono ?_
  rintro e w9 ⟨e9, m9, k9, e10, m10, k10, rfl, s9, s10, hn9, hc9, hb16⟩
  have hle := without_le (tb ++ ob) xs
  generalize hzs : without (tb ++ ob) xs = zs at s9 s10 s7 u3 hle
  clear hzs
  have hm9 := s9.len
  have hm10 := s10.len
  simp only [List.length_replicate] at hm10
  have tt : ((m9 : Int) + (m10 : Int) == (n1 : Int)) = true := by have := hl1.out; simp; omega
  have hm9b : m9 ≤ 8 ∧ m10 ≤ 8 := by have := hl1.out; omega
  have x7 := s7.below hb16 (Nat.le_refl _)
  have x3 := u3.below hb16 (Nat.le_refl _)
  have hb17 := hb15.trans (hb16.mono hb15.size)
  clear hm9 hm10 s10 s7 u3 q1 r9 hb15 hb16 hn9 hle o3l
  go_wp2_with fail
  refine (same_calls _ _ _ _ _ _ _ _ _ x3 x7).mono ?_
  rintro e w10 ⟨rfl, hb18⟩
  simp only [decide_true]
  have hb19 := hb17.trans (hb18.mono hb17.size)
  have y3 := x3.below hb18 (Nat.le_refl _)
  have y9 := s9.below hb18 (Nat.le_refl _)
  clear x3 x7 s9 hb17 hb18
  go_wp2_with fail
  refine (same_calls _ _ _ _ _ _ _ _ _ y3 y9).mono ?_
  rintro e w11 ⟨rfl, hb20⟩
  simp only [decide_true]
  have hb21 := hb19.trans (hb20.mono hb19.size)
  clear y3 y9 hb19 hb20
  go_wp2
  go_ret
  exact ⟨rfl, hb21⟩

end Go.Proofs.Ytgmnonijhgipbaa

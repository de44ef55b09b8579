/- spec.DrawCompactFunc, spec.Part and the laws FnCompactDouble and FnCompactTwice, walked. -/
import Derived.Test.YtgmnonijhgipbaaCompact
import Derived.Test.YtgmnonijhgipbaaCmpMath
import Derived.Test.YtgmnonijhgipbaaCode
namespace Go.Proofs.Ytgmnonijhgipbaa
open Go.RowKit
set_option linter.unusedVariables false

set_option maxHeartbeats 400000 in
theorem drawCompact_calls (w : World) (a : Option Addr) (n c : Nat) (bs : List Int) (h : Rd .u8 w a n c bs) (hb : Bytes bs) (hlt : ∀ ad, a = some ad → ad.block < w.heap.size) :
    Calls Try.prog 15 #[.slice a n c] w (Drawn2 w 12 4) := by
  have hd := Lib.hid (drw_start h hb hlt)
  have hb0 : Below w.heap.size w (w.alloc (.cells #[.slice a n c, .int .i64 0] 46)) := (Below.refl _ _).alloc (Nat.le_refl _) _
  go_enter Try.func15, Try.ntmps15
  go_wp2_with fail
  refine (numbers_calls _ w.heap.size a n c bs 0 12 hd.out (by omega) (by omega) (fun ad e => by have := hlt ad e; simp; omega)).mono ?_
  rintro e w1 ⟨a1, n1, c1, xs, p1, rfl, hr1, hn1, hc1, hi1, hl1, hp1, hd1, hs1⟩
  have hsz := hs1.size
  simp only [World.size_alloc] at hsz
  have hlt1 : ∀ ad, a1 = some ad → ad.block ≠ w.heap.size := fun ad e => by have := (hl1 ad e).1; simp at this; omega
  have hb1 := hb0.trans (hs1.below (Nat.le_refl _) (by simp))
  have hd1' := Lib.hid hd1
  have hr1' := Lib.hid hr1
  have hl1' := Lib.hid hl1
  clear hd hb0 hd1 hr1 hs1 hl1
  go_wp2_with fail
  refine (pick_calls _ w.heap.size a n c bs p1 2 hd1'.out (by omega) (by omega)).mono ?_
  rintro e w2 ⟨k, rfl, hk, hd2, hs2⟩
  have hr2 := hr1'.out.save (Save.of_sole hs2) hlt1
  have hb2 := hb1.trans (hs2.below (B := w.heap.size) (Nat.le_refl _))
  have hz2 : w1.heap.size ≤ w2.heap.size := by rw [hs2.size]; exact Nat.le_refl _
  have hr2' := Lib.hid hr2
  have hd2' := Lib.hid hd2
  clear hr1' hd1' hr2 hd2 hs2 hb1
  by_cases hz : k = 0
  · have t : ((k : Int) == 0) = true := by simp [hz]
    clear hz hk
    go_wp2
    go_ret2
    exact ⟨a1, n1, c1, xs, none, 0, 0, [], rfl, hr2'.out, Rd.nil _ _, hn1, by omega, hi1, (by intro x hx; cases hx), (fun ad e => Nat.lt_of_lt_of_le (hl1'.out ad e).2 hz2), (by intro ad e; cases e), hb2⟩
  · have t : ((k : Int) == 0) = false := by simp [hz]
    clear hz hk
    go_wp2_with fail
    refine (numbers_calls _ w.heap.size a n c bs (p1 + 1) 4 hd2'.out (by omega) (by omega) (fun ad e => by have := hlt ad e; omega)).mono ?_
    rintro e w3 ⟨a2, n2, c2, ys, p2, rfl, hr3, hn2, hc2, hi2, hl2, hp2, hd3, hs3⟩
    have hb3 := hb2.trans (hs3.below (Nat.le_refl _) (by omega))
    have hr4 := Lib.hid (hr2'.out.save hs3 hlt1)
    have hr5 := Lib.hid hr3
    have hl2' := Lib.hid hl2
    have hsz2 := hs3.size
    clear hr3 hd3 hs3 hd2' hr2' hb2 hl2
    go_wp2
    go_ret2
    exact ⟨a1, n1, c1, xs, a2, n2, c2, ys, rfl, hr4.out, hr5.out, hn1, hn2, hi1, hi2, (fun ad e => Nat.lt_of_lt_of_le (Nat.lt_of_lt_of_le (hl1'.out ad e).2 hz2) hsz2), (fun ad e => (hl2'.out ad e).2), hb3⟩

set_option maxHeartbeats 1000000 in
theorem part_calls (a b : Option Addr) (n c m d : Nat) (xs ys : List Int) (w : World) (h1 : Rd .i64 w a n c xs) (h2 : Rd .i64 w b m d ys) :
    Calls Try.prog 13 #[.slice a n c, .slice b m d] w fun e w' => e = .returned (.bool (decide (gm xs ys = []))) ∧ w = w' := by
  have l1 := h1.le
  have l2 := h2.le
  have e1 := Lib.hid h1.len
  have e2 := Lib.hid h2.len
  go_enter Try.func13, Try.ntmps13
  go_wp2
  go_loop [5, 10] (fun vk vj => ∃ k j : Nat, k ≤ n ∧ j ≤ m ∧ vk = .int .i64 (k : Int) ∧ vj = .int .i64 (j : Int) ∧ Hid (gm xs (ys.take j) = xs.drop k)) (fun _ vj => m - (intOf vj).toNat)
  case atStart => exact ⟨0, 0, Nat.zero_le _, Nat.zero_le _, rfl, rfl, by show _ = _; simp [gm]⟩
  case round =>
    obtain ⟨k, j, hk, hj, rfl, rfl, hg⟩ := hrel
    by_cases hlt : j < m
    · obtain ⟨bb, o2, rfl, _, f2⟩ := h2.at (by omega)
      have c2 := f2 j hlt
      clear f2
      have hjl := Lib.hid (show j < ys.length by rw [e2.out]; exact hlt)
      have hst := gm_snoc xs (ys.take j) (ys.getD j 0)
      rw [take_getD hjl.out, hg.out] at hst
      generalize ys.getD j 0 = y at c2 hst
      by_cases hkn : k < n
      · obtain ⟨ba, o1, rfl, _, f1⟩ := h1.at (by omega)
        have c1 := f1 k hkn
        clear f1
        have hkl := Lib.hid (show k < xs.length by rw [e1.out]; exact hkn)
        have hdr : xs.drop k = xs.getD k 0 :: xs.drop (k + 1) := by
          rw [List.drop_eq_getElem_cons hkl.out]
          have := hkl.out
          simp [List.getD_eq_getElem?_getD, this]
        rw [hdr] at hst
        generalize xs.getD k 0 = x at c1 hst hdr
        simp only at hst
        have t0 : decide ((k : Int) < (n : Int)) = true := by simp; omega
        have q1 : (k : Int) < (n : Int) := by omega
        by_cases hxy : x = y
        · rw [if_pos hxy] at hst
          have t : (x == y) = true := by simp [hxy]
          have hst' := Lib.hid hst
          clear hxy hst hdr
          go_wp2
          go_round
          case rel => exact ⟨k + 1, j + 1, by omega, by omega, by go_num, by go_num, hst'⟩
          case measure => simp [intOf]; omega
        · rw [if_neg hxy, ← hdr] at hst
          have t : (x == y) = false := by simp [hxy]
          have hst' := Lib.hid hst
          clear hxy hst hdr
          go_wp2
          go_round
          case rel => exact ⟨k, j + 1, by omega, by omega, by go_num, by go_num, hst'⟩
          case measure => simp [intOf]; omega
      · have hdr : xs.drop k = [] := List.drop_eq_nil_of_le (by rw [e1.out]; omega)
        rw [hdr] at hst
        simp only at hst
        rw [← hdr] at hst
        have hst' := Lib.hid hst
        have t0 : decide ((k : Int) < (n : Int)) = false := by simp; omega
        clear hst hdr
        go_wp2
        go_round
        case rel => exact ⟨k, j + 1, by omega, by omega, by go_num, by go_num, hst'⟩
        case measure => simp [intOf]; omega
    · have he : ys.take j = ys := List.take_of_length_le (by rw [e2.out]; omega)
      have hg2 : gm xs ys = xs.drop k := by have := hg.out; rwa [he] at this
      have hres : decide (gm xs ys = []) = ((k : Int) == (n : Int)) := by
        rw [hg2, Bool.eq_iff_iff]
        simp only [decide_eq_true_eq, List.drop_eq_nil_iff, beq_iff_eq]
        have := e1.out
        omega
      have hres' := Lib.hid hres
      clear he hg2 hres
      go_wp2
      go_ret
      exact ⟨by rw [hres'.out]; rfl, rfl⟩

set_option maxHeartbeats 2000000 in
theorem fnCompactDouble_walk (a0 : Option Addr) (n0 c0 : Nat) (x0 : List Int) (w : World) (h0 : Rd .u8 w a0 n0 c0 x0) (f0 : ∀ x ∈ x0, (Lit.int .u8 x).wf = true) (s0 : c0 * 1 ≤ 140737488351232) (d0 : ∀ ad, a0 = some ad → ad.block < w.heap.size) :
    Calls Try.prog 4 #[.slice a0 n0 c0] w fun e w' => e = .returned (.bool true) ∧ Below w.heap.size w w' := by
  have l := h0.le
  have hB := Lib.hid (bytes_of_wf f0)
  clear f0
  have hd0 := Lib.hid d0
  clear d0
  go_enter Try.func4, Try.ntmps4
  go_wp2_with fail
  refine (large_calls a0 n0 c0 w (by omega)).mono ?_
  rintro e w1 ⟨rfl, rfl⟩
  by_cases hL : 1048576 < n0
  · simp only [hL, decide_true]
    go_wp2
    go_ret
    exact ⟨rfl, Below.refl _ _⟩
  simp only [hL, decide_false]
  go_wp2_with fail
  refine (drawCompact_calls w a0 n0 c0 x0 h0 hB.out hd0.out).mono ?_
  rintro e w1 ⟨a1, n1, c1, xs, a2, n2, c2, tb, rfl, r1, r2, b1, b2, i1, i2, d1, d2, hb1⟩
  have d2' := Lib.hid d2
  have i1' := Lib.hid i1
  have hl1 := Lib.hid r1.len
  clear d1 d2 i1 i2 hB hd0
  have hb2 : Below w1.heap.size w1 (w1.alloc (.cells #[] 3)) := (Below.refl _ _).alloc (Nat.le_refl _) _
  have o0 := Lib.hid (Own.empty 3 w1.heap.size w1 (Nat.le_refl _))
  have lr := r1.le
  go_wp2
  go_loopw [5, 24] (fun v i wr => ∃ k : Nat, k ≤ n1 ∧ i = .int .i64 k ∧ Own 3 w1.heap.size wr v ((dbl (xs.take k)).map (Value.int .i64)) ∧ Below w1.heap.size w1 wr) (fun _ i _ => n1 - (intOf i).toNat)
  case atStart => exact ⟨0, Nat.zero_le _, rfl, by simpa [dbl] using o0.out, hb2⟩
  case round =>
    clear o0 hb2
    obtain ⟨k, hk, rfl, ho, hb⟩ := hrel
    have hsz := hb.size
    by_cases hlt : k < n1
    · obtain ⟨b, o, rfl, hblt, f1⟩ := (r1.below hb (Nat.le_refl _)).at (by omega)
      have cc := f1 k hlt
      clear f1
      have hkl := Lib.hid (show k < xs.length by rw [hl1.out]; exact hlt)
      have hsn := dbl_snoc (xs.take k) (xs.getD k 0)
      rw [take_getD hkl.out] at hsn
      have hdl := dbl_length (xs.take k)
      have htk : (xs.take k).length ≤ 12 := by simp; omega
      generalize xs.getD k 0 = y at cc hsn
      have hsn' := Lib.hid hsn
      generalize hds : dbl (xs.take k) = ds at ho hdl hsn'
      have hdl' : ds.length ≤ 24 := by omega
      clear hds hdl hsn
      have hb3 : Below wr.heap.size wr (wr.alloc (.cells #[.int .i64 y, .int .i64 y] 3)) := (Below.refl _ _).alloc (Nat.le_refl _) _
      have ho3 := Lib.hid (ho.below hb3 (Nat.le_refl _))
      have hcc : Hid (∀ ad', some (⟨wr.heap.size, 0, none⟩ : Addr) = some ad' → ∀ j u, ([y, y].map (Value.int .i64))[j]? = some u → (wr.alloc (.cells #[.int .i64 y, .int .i64 y] 3)).cell? (ad'.add j) = some u) := by
        intro ad' e j u hj
        cases e
        rw [Addr.add_lit, Nat.zero_add]
        exact blk_cell (l := [.int .i64 y, .int .i64 y]) (heap_alloc_new wr _) hj
      have hs3 : w1.heap.size ≤ (wr.alloc (.cells #[.int .i64 y, .int .i64 y] 3)).heap.size := Nat.le_trans hsz hb3.size
      go_wp2_with (first
        | (at_builtin; refine wpl_join rfl (.tmp 28) (.tmp 31) 22 3 rfl Try.underlying22 infoInt rfl w1.heap.size _ (ds.map (Value.int .i64)) ([y, y].map (Value.int .i64)) (ints_one .i64 [y, y]) rfl (some ⟨wr.heap.size, 0, none⟩) 2 2 rfl rfl (fun e => by cases e) hcc.out ho3.out (by simp [maxLen]; omega) (by simp; omega) hs3 ?_))
      intro v' w2 ho' hp
      have hb4 := hb.trans ((hb3.mono hsz).trans (hp.below (B := w1.heap.size) hs3 (fun k hk => (ho.lt hk).1)))
      have ho4 := Lib.hid (show Own 3 w1.heap.size w2 v' ((dbl (xs.take (k + 1))).map (Value.int .i64)) by rw [hsn'.out, List.map_append]; exact ho')
      clear ho' hp ho cc ho3 hcc hs3 hb3 hb hsz
      go_wp2
      go_roundw
      case rel => exact ⟨k + 1, by omega, by go_num, ho4.out, hb4⟩
      case measure => simp [intOf]; omega
    · have he : xs.take k = xs := List.take_of_length_le (by rw [hl1.out]; omega)
      rw [he] at ho
      obtain ⟨a3, n3, c3, rfl, r3⟩ := ho.rd
      have hn3 : n3 = 2 * n1 := by have := r3.len; rw [dbl_length, hl1.out] at this; omega
      have q1 := r1.below hb (Nat.le_refl _)
      have q2 := r2.below hb (Nat.le_refl _)
      have hb5 := hb1.trans (hb.mono hb1.size)
      have hn3' := Lib.hid hn3
      have hn3b : n3 ≤ 24 := by omega
      have i3 : Hid (Ints (dbl xs)) := fun x hx => i1'.out x (dbl_mem hx)
      clear ho he hn3 r1 r2 hb1
      go_wp2_with fail
      refine (compact_calls wr a1 n1 c1 xs a2 n2 c2 tb q1 i1'.out q2 (by omega) (fun ad e => Nat.lt_of_lt_of_le (d2'.out ad e) hb.size)).mono ?_
      rintro e w3 ⟨e1, m1, k1, e2, m2, k2, rfl, s1, s2, hnn1, hcc1, hb6⟩
      have q3 := r3.below hb6 (Nat.le_refl _)
      have q4 := q2.below hb6 (Nat.le_refl _)
      have hb7 := hb5.trans (hb6.mono hb5.size)
      have hz6 := hb6.size
      clear s2 hnn1 q1 q2 r3 hb5
      go_wp2_with fail
      refine (compact_calls w3 a3 n3 c3 (dbl xs) a2 n2 c2 tb q3 i3.out q4 (by omega) (fun ad e => Nat.lt_of_lt_of_le (d2'.out ad e) (Nat.le_trans hb.size hz6))).mono ?_
      rintro e w4 ⟨e3, m3, k3, e4, m4, k4, rfl, s3, s4, hnn2, hcc2, hb8⟩
      have hm4 := s4.len
      rw [List.length_replicate] at hm4
      rw [hn3'.out, cmpTo_dbl] at s3
      rw [hn3'.out, cmpTo_dbl] at hm4
      have hle := cmpTo_le (eqC tb) xs n1
      have hz := cmpTo_zero_iff (eqC tb) xs n1
      have hm3 := s3.len
      have s1' := s1.below hb8 (Nat.le_refl _)
      have hb9 := hb7.trans (hb8.mono hb7.size)
      clear s1 s4 q3 q4 hb7 hb8 hb6 hnn2 i3
      generalize cmpTo (eqC tb) xs n1 = ys at s3 s1' hm4 hle hz hm3
      have t1 : ((m4 : Int) == 2 * (n1 : Int) - (m3 : Int)) = true := by simp; omega
      have hm3b : m3 ≤ 12 := by omega
      have hm4b : m4 ≤ 24 := by omega
      have t2 : (((n1 : Int) == 0) == ((m3 : Int) == 0)) = true := by
        rw [hm3] at hz
        exact zero_test n1 m3 hz
      clear hm4 hle hz hm3
      go_wp2_with fail
      refine (same_calls _ _ _ _ _ _ _ _ _ s1' s3).mono ?_
      rintro e w5 ⟨rfl, hb10⟩
      simp only [decide_true]
      have hb11 := hb9.trans (hb10.mono hb9.size)
      clear s1' s3 hb9 hb10
      go_wp2
      go_ret
      exact ⟨rfl, hb11⟩

set_option maxHeartbeats 2000000 in
theorem fnCompactTwice_walk (a0 : Option Addr) (n0 c0 : Nat) (x0 : List Int) (w : World) (h0 : Rd .u8 w a0 n0 c0 x0) (f0 : ∀ x ∈ x0, (Lit.int .u8 x).wf = true) (s0 : c0 * 1 ≤ 140737488351232) (d0 : ∀ ad, a0 = some ad → ad.block < w.heap.size) :
    Calls Try.prog 5 #[.slice a0 n0 c0] w fun e w' => e = .returned (.bool true) ∧ Below w.heap.size w w' := by
  have l := h0.le
  have hB := Lib.hid (bytes_of_wf f0)
  clear f0
  have hd0 := Lib.hid d0
  clear d0
  go_enter Try.func5, Try.ntmps5
  go_wp2_with fail
  refine (large_calls a0 n0 c0 w (by omega)).mono ?_
  rintro e w1 ⟨rfl, rfl⟩
  by_cases hL : 1048576 < n0
  · simp only [hL, decide_true]
    go_wp2
    go_ret
    exact ⟨rfl, Below.refl _ _⟩
  simp only [hL, decide_false]
  go_wp2_with fail
  refine (drawCompact_calls w a0 n0 c0 x0 h0 hB.out hd0.out).mono ?_
  rintro e w1 ⟨a1, n1, c1, xs, a2, n2, c2, tb, rfl, r1, r2, b1, b2, i1, i2, d1, d2, hb1⟩
  have d2' := Lib.hid d2
  have i1' := Lib.hid i1
  have hl1 := Lib.hid r1.len
  clear d1 d2 i1 i2 hB hd0
  have hq := fun u => Lib.run_eql_slice_nil (P := Try.prog) u 22 3 a1 n1 c1 0 0 Try.underlying22
  go_wp2_with fail
  refine (compact_calls w1 a1 n1 c1 xs a2 n2 c2 tb r1 i1'.out r2 (by omega) d2'.out).mono ?_
  rintro e w2 ⟨a3, n3, c3, a4, n4, c4, rfl, r3, r4, hn3, hcc3, hb2⟩
  have q1 := r1.below hb2 (Nat.le_refl _)
  have q2 := r2.below hb2 (Nat.le_refl _)
  have hb3 := hb1.trans (hb2.mono hb1.size)
  have hz2 := hb2.size
  have hle := cmpTo_le (eqC tb) xs n1
  have hz := cmpTo_zero_iff (eqC tb) xs n1
  have hadj := cmpTo_noAdj tb xs n1
  have htw := cmpTo_twice tb xs n1
  have hsub := gm_sub (cmpTo_sub (eqC tb) xs n1 (by rw [hl1.out]; exact Nat.le_refl _))
  rw [List.take_of_length_le (by rw [hl1.out]; exact Nat.le_refl _)] at hsub
  have hints : Ints (cmpTo (eqC tb) xs n1) := fun x hx => i1'.out x (cmpTo_mem (eqC tb) xs n1 (by rw [hl1.out]; exact Nat.le_refl _) hx)
  have hm3 := r3.len
  have hm4 := r4.len
  rw [List.length_replicate] at hm4
  generalize cmpTo (eqC tb) xs n1 = ys at r3 r4 hle hz hadj htw hsub hints hm3 hm4
  rw [hm3] at htw hz
  have hn3b : n3 ≤ 12 := by omega
  have hn4b : n4 ≤ 12 := by omega
  have t1 : ((n3 : Int) + (n4 : Int) == (n1 : Int)) = true := by simp; omega
  have t2 : (((n1 : Int) == 0) == ((n3 : Int) == 0)) = true := zero_test n1 n3 hz
  have hadj' := Lib.hid hadj
  have htw' := Lib.hid htw
  have hsub' := Lib.hid hsub
  have hints' := Lib.hid hints
  have hm3' := Lib.hid hm3
  clear r1 r2 r4 hb1 hb2 hle hz hadj htw hsub hints hm3 hm4 hn3
  go_wp2_with fail
  refine (compact_calls w2 a3 n3 c3 ys a2 n2 c2 tb r3 hints'.out q2 (by omega) (fun ad e => Nat.lt_of_lt_of_le (d2'.out ad e) hz2)).mono ?_
  rw [htw'.out]
  rintro e w3 ⟨a5, n5, c5, a6, n6, c6, rfl, r5, r6, hn5, hcc5, hb4⟩
  have hm6 := r6.len
  simp only [List.length_replicate, hm3'.out, Nat.sub_self] at hm6
  obtain rfl : 0 = n6 := hm6
  have q3 := r3.below hb4 (Nat.le_refl _)
  have q4 := q2.below hb4 (Nat.le_refl _)
  have q5 := q1.below hb4 (Nat.le_refl _)
  have hb5 := hb3.trans (hb4.mono hb3.size)
  have hbs := hb5.size
  clear r6 r3 q1 q2 hb3 hb4 hn5
  go_wp2
  go_loopw [11] (fun i wr => ∃ k : Nat, 1 ≤ k ∧ k ≤ 12 ∧ i = .int .i64 (k : Int) ∧ Below w3.heap.size w3 wr) (fun i _ => n3 - (intOf i).toNat)
  case atStart => exact ⟨1, by omega, by omega, rfl, Below.refl _ _⟩
  case round =>
    obtain ⟨k, hk1, hk, rfl, hb⟩ := hrel
    by_cases hlt : k < n3
    · obtain ⟨b, o, rfl, _, f1⟩ := (q3.below hb (Nat.le_refl _)).at (by omega)
      have c1' := f1 k hlt
      have c2' := f1 (k - 1) (by omega)
      clear f1
      have hne := hadj'.out k (by omega) (by rw [hm3'.out]; exact hlt)
      have hx1 := hints'.out _ (getD_mem (xs := ys) (k := k) (by rw [hm3'.out]; exact hlt))
      have hx2 := hints'.out _ (getD_mem (xs := ys) (k := k - 1) (by rw [hm3'.out]; omega))
      generalize ys.getD k 0 = y1 at c1' hne hx1
      generalize ys.getD (k - 1) 0 = y2 at c2' hne hx2
      have hc1 := fun m => sclass_calls a2 n2 c2 tb y1 (wr.drewN m) ((q4.below hb (Nat.le_refl _)).drewN m) hx1
      have hc2 := fun m => sclass_calls a2 n2 c2 tb y2 (wr.drewN m) ((q4.below hb (Nat.le_refl _)).drewN m) hx2
      simp only [eqC] at hne
      generalize classI tb y1 = X at hc1 hne
      generalize classI tb y2 = Y at hc2 hne
      have hc1' := Lib.hid hc1
      have hc2' := Lib.hid hc2
      clear hc1 hc2 hx1 hx2
      have p1 : (0 : Int) ≤ (k : Int) := by omega
      have p2 : (k : Int) < (n3 : Int) := by omega
      have p3 : (0 : Int) ≤ (k : Int) - 1 := by omega
      have p4 : (k : Int) - 1 < (n3 : Int) := by omega
      have p5 : ((k : Int) - 1).toNat = k - 1 := by omega
      have p7 : (1 : Int) ≤ (k : Int) := by omega
      have p6 : IntKind.i64.wrap ((k : Int) - 1) = (k : Int) - 1 := IntWalk.i64_in _ (by omega)
      go_wp2
      go_quiet ((first | (go_at_call 18; with_reducible exact Calls.quiet_of_same (hc1'.out _)) | (go_at_call 18; with_reducible exact Calls.quiet_of_same (hc2'.out _))))
      clear p6 p3 p4 p5 p7
      go_wp2
      go_roundw
      case rel => exact ⟨k + 1, by omega, by omega, by go_num, below_drewN hb _⟩
      case measure => simp [intOf]; omega
    · have u3 := q3.below hb (Nat.le_refl _)
      have u5 := q5.below hb (Nat.le_refl _)
      have u7 := r5.below hb (Nat.le_refl _)
      have hb6 := hb5.trans (hb.mono hbs)
      clear q3 q4 q5 r5 hb hbs hb5
      go_wp2_with fail
      refine (same_calls _ _ _ _ _ _ _ _ _ u7 u3).mono ?_
      rintro e w5 ⟨rfl, hb10⟩
      simp only [decide_true]
      have hb11 := hb6.trans (hb10.mono hb6.size)
      have v3 := u3.below hb10 (Nat.le_refl _)
      have v5 := u5.below hb10 (Nat.le_refl _)
      clear u3 u5 u7 hb6 hb10
      go_wp2_with fail
      refine (part_calls _ _ _ _ _ _ _ _ _ v3 v5).mono ?_
      rintro e w6 ⟨rfl, rfl⟩
      rw [hsub'.out]
      simp only [decide_true]
      cases ha : a1.isNone
      all_goals
        rw [ha] at hq
        clear ha
        go_wp2
        go_ret
        exact ⟨rfl, hb11⟩

end Go.Proofs.Ytgmnonijhgipbaa

/- The law FnContainsJoin, walked. -/
import Derived.Test.YtmhkffjbmdhekaaContains
import Derived.Test.YtmhkffjbmdhekaaDrawC
namespace Go.Proofs.Ytmhkffjbmdhekaa
open Go.RowKit
set_option linter.unusedVariables false

theorem bytes_of_wf {xs : List Int} (h : ∀ x ∈ xs, (Lit.int .u8 x).wf = true) (hb : ∀ x : Int, (Lit.int .u8 x).wf = true → 0 ≤ x ∧ x ≤ 255) : Bytes xs := by
  intro i hi
  exact hb _ (h _ (by simp [List.getD_eq_getElem?_getD, hi]))
theorem Bytes.cut {xs : List Int} (h : Bytes xs) (lo hi : Nat) : Bytes ((xs.take hi).drop lo) := by
  intro i hi'
  simp only [List.length_drop, List.length_take] at hi'
  have := h (lo + i) (by omega)
  simp only [List.getD_eq_getElem?_getD, List.getElem?_drop, List.getElem?_take] at this ⊢
  rw [if_pos (by omega)]
  exact this
theorem cutA_lt_blk {a : Option Addr} {mx lo B : Nat} (h : ∀ ad, a = some ad → ad.block < B) : ∀ ad, cutA a mx lo = some ad → ad.block < B := by
  intro ad e
  unfold cutA at e
  split at e
  · exact h ad e
  · cases a with
    | none => simp at e
    | some x =>
      simp at e
      subst e
      have := h x rfl
      unfold Addr.add
      split <;> simpa using this
theorem anyL_append (tb xs ys : List Int) : anyL tb (xs ++ ys) = (anyL tb xs || anyL tb ys) := by simp [anyL]
theorem sizeByte : (Try.prog.info? 5).map (·.size) = some 1 := by kernel_rfl

set_option maxHeartbeats 1000000 in
theorem fnContainsJoin_walk (a0 : Option Addr) (n0 c0 : Nat) (x0 : List Int) (w : World) (h0 : Rd .u8 w a0 n0 c0 x0) (f0 : ∀ x ∈ x0, (Lit.int .u8 x).wf = true) (s0 : c0 * 1 ≤ 140737488351232) (d0 : ∀ ad, a0 = some ad → ad.block < w.heap.size) :
    Calls Try.prog 4 #[.slice a0 n0 c0] w fun e w' => e = .returned (.bool true) ∧ Below w.heap.size w w' := by
  have l := h0.le
  have hB := Lib.hid (bytes_of_wf f0 (fun x hx => by simp [Lit.wf, IntKind.min, IntKind.max, IntKind.signed, IntKind.bits] at hx; omega))
  clear f0
  have hd0 := Lib.hid d0
  clear d0
  go_enter Try.func4, Try.ntmps4
  go_wp2_with fail
  refine (large_calls a0 n0 c0 w (by omega)).mono ?_
  rintro e w1 ⟨rfl, rfl⟩
  by_cases hL : 1048576 < n0
  · simp only [hL, decide_true]
    go_wp2
    go_ret
    exact ⟨rfl, Below.refl _ _⟩
  simp only [hL, decide_false]
  have hcut := fun u => run_cut_low (P := Try.prog) u 28 5 a0 n0 c0 (n0 / 2) .i64 Try.underlying28 sizeByte ((n0 : Int) / 2) (by omega) (by omega)
  go_wp2_with fail
  refine (drawContains_calls w a0 n0 c0 x0 h0 hB.out hd0.out).mono ?_
  rintro e w1 ⟨a1, n1, c1, xs, a2, n2, c2, tb, rfl, r1, r2, b1, b2, i1, i2, hb1⟩
  have hc0 := (h0.below hb1 (Nat.le_refl _)).cut (lo := n0 / 2) (hi := n0) (by omega) (Nat.le_refl _)
  have hcb := hB.out.cut (n0 / 2) n0
  have hcl : ∀ ad, cutA a0 c0 (n0 / 2) = some ad → ad.block < w1.heap.size := cutA_lt_blk (fun ad e => Nat.lt_of_lt_of_le (hd0.out ad e) hb1.size)
  have hc0' := Lib.hid hc0
  have hcb' := Lib.hid hcb
  have hcl' := Lib.hid hcl
  clear hc0 hcb hcl
  go_wp2_with fail
  refine (drawContains_calls w1 _ _ _ _ hc0'.out hcb'.out hcl'.out).mono ?_
  rintro e w2 ⟨a3, n3, c3, ys, a4, n4, c4, zs, rfl, r3, r4, b3, b4, i3, i4, hb2⟩
  have r1' := r1.below hb2 (Nat.le_refl _)
  have r2' := r2.below hb2 (Nat.le_refl _)
  have hb3 := hb1.trans (hb2.mono hb1.size)
  clear hc0' hcb' hcl' r4 i4 b4 hb1 hb2 r1 r2 hcut
  go_wp2_with fail
  refine (contains_calls w2 _ _ _ _ _ _ _ _ r1' r2' (by omega)).mono ?_
  rintro e w3 ⟨a5, n5, c5, rfl, r5, hb4⟩
  clear r5
  have q1 := r1'.below hb4 (Nat.le_refl _)
  have q2 := r2'.below hb4 (Nat.le_refl _)
  have q3 := r3.below hb4 (Nat.le_refl _)
  have hb5 := hb3.trans (hb4.mono hb3.size)
  clear r1' r2' r3 hb3 hb4
  go_wp2_with fail
  refine (contains_calls w3 _ _ _ _ _ _ _ _ q3 q2 (by omega)).mono ?_
  rintro e w4 ⟨a6, n6, c6, rfl, r6, hb6⟩
  clear r6
  have p1 := q1.below hb6 (Nat.le_refl _)
  have p2 := q2.below hb6 (Nat.le_refl _)
  have p3 := q3.below hb6 (Nat.le_refl _)
  have hb7 := hb5.trans (hb6.mono hb5.size)
  clear q1 q2 q3 hb5 hb6
  have hb8 : Below w4.heap.size w4 (w4.alloc (.cells #[] 3)) := (Below.refl _ _).alloc (Nat.le_refl _) _
  have o1 := Lib.hid (Own.empty 3 w4.heap.size w4 (Nat.le_refl _))
  have p1' := Lib.hid (p1.below hb8 (Nat.le_refl _))
  have hl1 := Lib.hid p1.len
  have hl3 := Lib.hid p3.len
  have hs8 : w4.heap.size ≤ (w4.alloc (.cells #[] 3)).heap.size := hb8.size
  go_wp2_with (first
    | (at_builtin; refine wpl_join rfl (.tmp 44) (.tmp 45) 22 3 rfl Try.underlying22 infoInt rfl w4.heap.size _ [] _ (ints_one .i64 xs) rfl a1 n1 c1 rfl (by simp [hl1.out]) p1'.out.2.2.2.1 p1'.out.cells o1.out (by simp [maxLen]; omega) (by simp; omega) hs8 ?_))
  intro v1 w5 o2 pu1
  have hb9 : Below w4.heap.size w4 w5 := hb8.trans (pu1.below hs8 (fun k hk => (o1.out.lt hk).1))
  have z3 := p3.below hb9 (Nat.le_refl _)
  have hs9 := hb9.size
  have p1h := Lib.hid p1
  have p2h := Lib.hid p2
  clear o1 p1' p1 p2 p3 pu1 hb8 hs8
  have o2' := Lib.hid o2
  clear o2
  go_wp2_with (first
    | (at_builtin; refine wpl_join rfl (.tmp 46) (.tmp 47) 22 3 rfl Try.underlying22 infoInt rfl w4.heap.size _ _ _ (ints_one .i64 ys) rfl a3 n3 c3 rfl (by simp [hl3.out]) z3.2.2.2.1 z3.cells o2'.out (by simp [maxLen, hl1.out]; omega) (by simp [hl1.out]; omega) hs9 ?_))
  intro v2 w6 o3 pu2
  have hb10 : Below w4.heap.size w4 w6 := hb9.trans (pu2.below hs9 (fun k hk => (o2'.out.lt hk).1))
  rw [← List.map_append] at o3
  obtain ⟨a7, n7, c7, rfl, r7⟩ := o3.rd
  have hn7 : n7 ≤ 16 := by have := r7.len; have e1 := hl1.out; have e3 := hl3.out; simp at this; omega
  have z2 := p2h.out.below hb10 (Nat.le_refl _)
  have hb11 := hb7.trans (hb10.mono hb7.size)
  have z1 := p1h.out.below hb10 (Nat.le_refl _)
  clear o3 pu2 o2' hb9 hb10 z3 hs9 p1h p2h
  go_wp2_with fail
  refine (contains_calls w6 _ _ _ _ _ _ _ _ r7 z2 (by omega)).mono ?_
  rintro e w7 ⟨a8, n8, c8, rfl, r8, hb12⟩
  have y1 := z1.below hb12 (Nat.le_refl _)
  have hb13 := hb11.trans (hb12.mono hb11.size)
  clear r7 r8 z1 z2 hb11 hb12
  rw [anyL_append]
  generalize anyL tb xs = A
  generalize anyL tb ys = B
  have hb14 : Below w7.heap.size w7 (w7.alloc (.cells #[.int .i64 5] 3)) := (Below.refl _ _).alloc (Nat.le_refl _) _
  have o4 := Lib.hid (Own.lit 3 w7.heap.size w7 ([5].map (Value.int .i64)) (Nat.le_refl _) (by simp [maxLen]))
  have y1' := Lib.hid (y1.below hb14 (Nat.le_refl _))
  have hs14 : w7.heap.size ≤ (w7.alloc (.cells #[.int .i64 5] 3)).heap.size := hb14.size
  go_wp2_with (first
    | (at_builtin; refine wpl_join rfl (.tmp 54) (.tmp 55) 22 3 rfl Try.underlying22 infoInt rfl w7.heap.size _ ([5].map (Value.int .i64)) _ (ints_one .i64 xs) rfl a1 n1 c1 rfl (by simp [hl1.out]) y1'.out.2.2.2.1 y1'.out.cells o4.out (by simp [maxLen]; omega) (by simp; omega) hs14 ?_))
  intro v3 w8 o5 pu3
  have hb15 : Below w7.heap.size w7 w8 := hb14.trans (pu3.below hs14 (fun k hk => (o4.out.lt hk).1))
  have o6 : Own 3 w7.heap.size w8 v3 ((5 :: xs).map (Value.int .i64)) := o5
  obtain ⟨a9, n9, c9, rfl, r9⟩ := o6.rd
  have hn9 : n9 ≤ 16 := by have := r9.len; have e1 := hl1.out; simp at this; omega
  have hb16 := hb13.trans (hb15.mono hb13.size)
  have hb17 : Below w8.heap.size w8 (w8.alloc (.cells #[.int .i64 5] 3)) := (Below.refl _ _).alloc (Nat.le_refl _) _
  have r10 := Lib.hid (r9.below hb17 (Nat.le_refl _))
  have r11 : Hid (Rd .i64 (w8.alloc (.cells #[.int .i64 5] 3)) (some ⟨w8.heap.size, 0, none⟩) 1 1 [5]) := by
    refine Rd.blk (l := [.int .i64 5]) (heap_alloc_new w8 _) rfl (Nat.le_refl _) (by simp [maxLen]) fun i hi => ?_
    obtain rfl : i = 0 := by omega
    rfl
  have hb18 := hb16.trans (hb17.mono hb16.size)
  clear o4 o5 o6 pu3 y1 y1' r9 hb14 hb15 hb16 hb17 hs14 hb13
  go_wp2_with fail
  refine (contains_calls _ _ _ _ _ _ _ _ _ r10.out r11.out (by omega)).mono ?_
  rintro e w9 ⟨a10, n10, c10, rfl, r12, hb19⟩
  have hb20 := hb18.trans (hb19.mono hb18.size)
  clear r10 r11 r12 hb18 hb19
  have e5 : anyL [5] (5 :: xs) = true := by simp [anyL]
  rw [e5]
  clear e5
  cases A <;> cases B
  all_goals
    go_wp2
    go_ret
    exact ⟨rfl, hb20⟩

end Go.Proofs.Ytmhkffjbmdhekaa

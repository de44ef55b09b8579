/- impl.CompactFunc, spec.Compact and the law FnExactCompactFunc, walked. -/
import Derived.Test.YtgmnonijhgipbaaLcmp
import Derived.Test.YtgmnonijhgipbaaDeleteLaw
namespace Go.Proofs.Ytgmnonijhgipbaa
open Go.RowKit
set_option linter.unusedVariables false

theorem lcompact_nil (w : World) (B : Nat) :
    Calls Try.prog 25 #[.slice none 0 0, .func (.func 30) #[] #[.pointer (some ⟨B, 0, none⟩)]] w fun e w' => e = .returned (.slice none 0 0) ∧ w = w' := by
  go_enter Try.func25, Try.ntmps25
  go_wp2
  go_ret
  exact ⟨rfl, rfl⟩

set_option maxHeartbeats 1000000 in
theorem compact_calls (w : World) (a : Option Addr) (n c : Nat) (xs : List Int) (ta : Option Addr) (tn tc : Nat) (tb : List Int) (hx : Rd .i64 w a n c xs) (hin : Ints xs) (ht : Rd .i64 w ta tn tc tb) (hc : n * 8 ≤ 140737488351232)
    (htl : ∀ ad, ta = some ad → ad.block < w.heap.size) :
    Calls Try.prog 16 #[.slice a n c, .slice ta tn tc] w (LeftPost w a n (cmpTo (eqC tb) xs n)) := by
  have hmf : ∀ (fn : Fn) (first cap : Array Value) (w : World), (Instr.makeFunc fn first cap).run Try.prog w = .ok (.func fn first cap) w := fun _ _ _ _ => rfl
  have hq := fun (u : World) (a : Option Addr) (n c : Nat) => Lib.run_eql_slice_nil (P := Try.prog) u 22 3 a n c 0 0 Try.underlying22
  have l := hx.le
  have hb0 : Below w.heap.size w (w.alloc (.cells #[.slice ta tn tc] 22)) := (Below.refl _ _).alloc (Nat.le_refl _) _
  have hx0 := Lib.hid (hx.below hb0 (Nat.le_refl _))
  have hlen := Lib.hid hx.len
  have htl' := Lib.hid htl
  clear htl
  have hle := cmpTo_le (eqC tb) xs n
  cases ha : a.isNone
  · -- the slice is not nil
    have hne : a.isNone = true → 0 < 0 := fun e => by rw [ha] at e; cases e
    have ha' := Lib.hid ha
    have hle' : (cmpTo (eqC tb) xs n).length ≤ n := hle
    clear ha hle
    go_enter Try.func16, Try.ntmps16
    go_wp2_with fail
    refine (spare_calls a n c 0 xs _ hx0.out hc (by omega) hne).mono ?_
    rintro e w1 ⟨rfl, hg, hb1⟩
    have hg1 : w1.heap[w.heap.size + 1]? = some (.cells (xs.map (Value.int .i64)).toArray 3 (0, 0)) := by simpa [spareCells] using hg
    have hB1 : w1.cell? ⟨w.heap.size, 0, none⟩ = some (.slice ta tn tc) := blk_cell (l := [.slice ta tn tc]) ((hb1.block w.heap.size (by simp)).trans (heap_alloc_new w _)) rfl
    have hbw := hb0.trans (hb1.mono hb0.size)
    have hsz := hb1.size
    simp only [World.size_alloc] at hsz
    have hg1' := Lib.hid hg1
    have hB1' := Lib.hid hB1
    clear hg hb1 hb0 hne hg1 hB1 hx0
    go_wp2_with fail
    have hcall : ∀ (u : World) (x y : Int), Save (w.heap.size + 1) w1 u → x ∈ xs → y ∈ xs → Calls Try.prog 30 #[.int .i64 x, .int .i64 y, .pointer (some ⟨w.heap.size, 0, none⟩)] u fun e u' => e = .returned (.bool (eqC tb x y)) ∧ Below u.heap.size u u' := by
      intro u x y hs hxm hym
      have hz := blk_lt hg1'.out
      have hcu : u.cell? ⟨w.heap.size, 0, none⟩ = some (.slice ta tn tc) := by rw [World.cell?_of_block (w := w1) (hs.block w.heap.size (by omega) (by omega))]; exact hB1'.out
      refine (same_class_calls u w.heap.size ta tn tc tb x y hcu ((ht.below hbw (Nat.le_refl _)).save hs (fun ad e => by have := htl'.out ad e; omega)) (hin x hxm) (hin y hym)).mono ?_
      rintro e u' ⟨rfl, q, rfl⟩
      exact ⟨rfl, below_drewN (Below.refl _ _) q⟩
    refine (lcompactC_calls w1 (w.heap.size + 1) n n xs w.heap.size (eqC tb) hlen.out (Nat.le_refl _) (by omega) hg1'.out hcall).mono ?_
    clear hcall
    rintro e w2 ⟨rfl, hg2, hs2⟩
    have hb2 := hbw.trans (hs2.below (B := w.heap.size) (by omega) (by omega))
    have hg2' := Lib.hid hg2
    clear hg2 hs2 hbw hB1' hg1'
    generalize hys : cmpTo (eqC tb) xs n = ys at hle' hg2'
    have hys' := Lib.hid hys
    clear hys
    have hcut := fun u => run_cut_low (P := Try.prog) u 22 3 (some ⟨w.heap.size + 1, 0, none⟩) n n ys.length .i64 Try.underlying22 sizeInt (ys.length : Int) rfl hle'
    have hb3 : Below w2.heap.size w2 (w2.alloc (.cells #[] 3)) := (Below.refl _ _).alloc (Nat.le_refl _) _
    have o1 := Lib.hid (Own.empty 3 w2.heap.size w2 (Nat.le_refl _))
    have hs3 : w2.heap.size ≤ (w2.alloc (.cells #[] 3)).heap.size := hb3.size
    have hall : Rd .i64 w2 (some ⟨w.heap.size + 1, 0, none⟩) n n (ys ++ List.replicate (n - ys.length) 0) :=
      Rd.blk hg2'.out (by simp; omega) (Nat.le_refl _) (by unfold maxLen; omega) fun i hi => by rw [Nat.zero_add]; exact getD_map_int .i64 _ i (by simp; omega)
    have hrest : Rd .i64 w2 (cutA (some ⟨w.heap.size + 1, 0, none⟩) n ys.length) (n - ys.length) (n - ys.length) (List.replicate (n - ys.length) 0) := by
      have := hall.cut (lo := ys.length) (hi := n) hle' (Nat.le_refl _)
      rw [List.take_of_length_le (by simp; omega), List.drop_left] at this
      exact this
    have hr' := Lib.hid (hrest.below hb3 (Nat.le_refl _))
    have hout : Hid (Rd .i64 w2 (some ⟨w.heap.size + 1, 0, none⟩) ys.length n ys) := by
      have := hall.cut (lo := 0) (hi := ys.length) (Nat.zero_le _) hle'
      rw [cutA_zero, List.take_left, List.drop_zero] at this
      exact this
    clear hall hrest
    generalize hca : cutA (some ⟨w.heap.size + 1, 0, none⟩) n ys.length = ca at hcut hr'
    clear hca
    go_wp2_with (first
      | (at_builtin; refine wpl_join rfl (.tmp 15) (.tmp 19) 22 3 rfl Try.underlying22 infoInt rfl w2.heap.size _ [] _ (ints_one .i64 _) rfl ca (n - ys.length) (n - ys.length) rfl (by simp) hr'.out.2.2.2.1 hr'.out.cells o1.out (by simp [maxLen]; omega) (by simp; omega) hs3 ?_))
    intro v1 w3 o2 pu
    have hb4 : Below w2.heap.size w2 w3 := hb3.trans (pu.below hs3 (fun k hk => (o1.out.lt hk).1))
    have hb5 := hb2.trans (hb4.mono hb2.size)
    have o3 : Own 3 w2.heap.size w3 v1 ((List.replicate (n - ys.length) (0 : Int)).map (Value.int .i64)) := by simpa using o2
    obtain ⟨a3, n3, c3, rfl, r3⟩ := o3.rd
    have r3' := Lib.hid r3
    have hout' := Lib.hid (hout.out.below hb4 (Nat.le_refl _))
    clear o2 o3 pu hb3 hs3 r3 hr' hout o1 hb4 hcut
    go_wp2
    go_ret3
    rw [hys'.out]
    exact ⟨_, _, _, a3, n3, c3, by rw [ha'.out]; rfl, hout'.out, r3'.out, by rw [ha'.out]; rfl, Nat.le_refl _, hb5⟩
  · -- the slice is nil
    obtain rfl : a = none := by simpa using ha
    obtain ⟨rfl, rfl⟩ := hx.2.2.2.1 rfl
    obtain rfl : xs = [] := List.eq_nil_of_length_eq_zero hx.len
    clear hx hx0 hlen hle l
    go_enter Try.func16, Try.ntmps16
    go_wp2_with fail
    refine (spare_nil _).mono ?_
    rintro e w1 ⟨rfl, rfl⟩
    go_wp2_with fail
    refine (lcompact_nil _ w.heap.size).mono ?_
    rintro e w2 ⟨rfl, rfl⟩
    generalize w.alloc (.cells #[.slice ta tn tc] 22) = w2 at hb0
    have hcut := fun u => run_cut_low (P := Try.prog) u 22 3 none 0 0 0 .i64 Try.underlying22 sizeInt 0 rfl (Nat.le_refl _)
    rw [cutA_none] at hcut
    have hb3 : Below w2.heap.size w2 (w2.alloc (.cells #[] 3)) := (Below.refl _ _).alloc (Nat.le_refl _) _
    have o1 := Lib.hid (Own.empty 3 w2.heap.size w2 (Nat.le_refl _))
    have hs3 : w2.heap.size ≤ (w2.alloc (.cells #[] 3)).heap.size := hb3.size
    go_wp2_with (first
      | (at_builtin; refine wpl_join rfl (.tmp 15) (.tmp 19) 22 3 rfl Try.underlying22 infoInt rfl w2.heap.size _ [] [] (by intro y hy; cases hy) rfl none 0 0 rfl rfl (fun _ => ⟨rfl, rfl⟩) (by intro ad e; cases e) o1.out (by simp [maxLen]) (by simp) hs3 ?_))
    intro v1 w3 o2 pu
    have hb4 : Below w2.heap.size w2 w3 := hb3.trans (pu.below hs3 (fun k hk => (o1.out.lt hk).1))
    have hb5 := hb0.trans (hb4.mono hb0.size)
    have o3 : Own 3 w2.heap.size w3 v1 (([] : List Int).map (Value.int .i64)) := by simpa using o2
    obtain ⟨a3, n3, c3, rfl, r3⟩ := o3.rd
    have r3' := Lib.hid r3
    clear o2 o3 pu hb3 hs3 r3 o1 hb4 hcut
    go_wp2
    go_ret3
    exact ⟨none, 0, 0, a3, n3, c3, rfl, Rd.nil _ _, by simpa using r3'.out, rfl, Nat.le_refl _, hb5⟩

set_option maxHeartbeats 1000000 in
theorem scompact_calls (w : World) (a : Option Addr) (n c : Nat) (xs : List Int) (ta : Option Addr) (tn tc : Nat) (tb : List Int) (hx : Rd .i64 w a n c xs) (hin : Ints xs) (ht : Rd .i64 w ta tn tc tb) (hn : n * 8 ≤ 140737488351232) :
    Calls Try.prog 19 #[.slice a n c, .slice ta tn tc] w (ListPost w (cmpTo (eqC tb) xs n)) := by
  have l := hx.le
  have hl := Lib.hid hx.len
  have hin' := Lib.hid hin
  clear hin
  go_enter Try.func19, Try.ntmps19
  go_wp2
  go_loopw [5, 11] (fun v i wr => ∃ k : Nat, k ≤ n ∧ i = .int .i64 k ∧ Own 3 w.heap.size wr v ((cmpTo (eqC tb) xs k).map (Value.int .i64)) ∧ Below w.heap.size w wr) (fun _ i _ => n - (intOf i).toNat)
  case atStart => exact ⟨0, Nat.zero_le _, rfl, Own.empty _ _ _ (Nat.le_refl _), (Below.refl _ _).alloc (Nat.le_refl _) _⟩
  case round =>
    obtain ⟨k, hk, rfl, ho, hb⟩ := hrel
    have hsz := hb.size
    have hle := cmpTo_le (eqC tb) xs k
    by_cases hlt : k < n
    · obtain ⟨b, o, rfl, hblt, f1⟩ := (hx.below hb (Nat.le_refl _)).at (by omega)
      have c1 := f1 k hlt
      have hkl := Lib.hid (show k < xs.length by rw [hl.out]; exact hlt)
      have hrd := Lib.hid (ht.below hb (Nat.le_refl _))
      by_cases hk0 : k = 0
      · clear f1
        have hsn := Lib.hid (cmpTo_keep (eq := eqC tb) (xs := xs) (j := k) (.inl hk0))
        generalize hy : xs.getD k 0 = y at c1 hsn
        clear hy
        have g0 : ((k : Int) == 0) = true := by simpa using hk0
        have q1 : (0 : Int) ≤ (k : Int) := by omega
        have q2 : (k : Int) < (n : Int) := by omega
        clear hk0
        go_wp2
        go_quiet (fail)
        have hlp : ((cmpTo (eqC tb) xs k).map (Value.int .i64)).length + 1 ≤ n := by simp; omega
        go_wp2_with (first
          | (at_builtin; refine wpl_push rfl (.tmp 31) (.tmp 33) 22 3 rfl Try.underlying22 infoInt rfl w.heap.size _ ((cmpTo (eqC tb) xs k).map (Value.int .i64)) (.int .i64 y) rfl rfl rfl (ho.drewN _) (by unfold maxLen; omega) (by omega) (by simpa using hsz) ?_))
        intro v' w1 ho' hp
        have hb1 := (below_drewN hb _).trans (hp.below (B := w.heap.size) (by simpa using hsz) (fun k hk => (ho.lt hk).1))
        have ho2 := Lib.hid (show Own 3 w.heap.size w1 v' ((cmpTo (eqC tb) xs (k + 1)).map (Value.int .i64)) by rw [hsn.out, List.map_append]; exact ho')
        clear ho' hp ho c1 hle hb hsz hrd hlp
        go_wp2
        go_roundw
        case rel => exact ⟨k + 1, by omega, by go_num, ho2.out, hb1⟩
        case measure => simp [intOf]; omega
      · have c2 := f1 (k - 1) (by omega)
        clear f1
        have hx1 := hin'.out _ (getD_mem (xs := xs) (k := k) hkl.out)
        have hx2 := hin'.out _ (getD_mem (xs := xs) (k := k - 1) (by have := hkl.out; omega))
        have e1 : ¬ (k = 0 ∨ eqC tb (xs.getD k 0) (xs.getD (k - 1) 0) = false) ↔ eqC tb (xs.getD k 0) (xs.getD (k - 1) 0) = true := by
          cases eqC tb (xs.getD k 0) (xs.getD (k - 1) 0) <;> simp [hk0]
        have hsk := Lib.hid (fun h => cmpTo_skip (eq := eqC tb) (xs := xs) (j := k) (e1.2 h))
        have hke := Lib.hid (fun h => cmpTo_keep (eq := eqC tb) (xs := xs) (j := k) (.inr h))
        clear e1
        generalize hy1 : xs.getD k 0 = y1 at c1 hx1 hsk hke
        generalize hy2 : xs.getD (k - 1) 0 = y2 at c2 hx2 hsk hke
        clear hy1 hy2
        have hc1 := fun m => sclass_calls ta tn tc tb y1 (wr.drewN m) (hrd.out.drewN m) hx1
        have hc2 := fun m => sclass_calls ta tn tc tb y2 (wr.drewN m) (hrd.out.drewN m) hx2
        have hdef : eqC tb y1 y2 = (classI tb y1 == classI tb y2) := rfl
        generalize hX : classI tb y1 = X at hc1 hdef
        generalize hY : classI tb y2 = Y at hc2 hdef
        have hc1' := Lib.hid hc1
        have hc2' := Lib.hid hc2
        clear hc1 hc2 hX hY hx1 hx2
        have g0 : ((k : Int) == 0) = false := by simpa using hk0
        have q1 : (0 : Int) ≤ (k : Int) := by omega
        have q2 : (k : Int) < (n : Int) := by omega
        have q3 : (0 : Int) ≤ (k : Int) - 1 := by omega
        have q4 : (k : Int) - 1 < (n : Int) := by omega
        have q5 : ((k : Int) - 1).toNat = k - 1 := by omega
        have q7 : (1 : Int) ≤ (k : Int) := by omega
        have q8 : 1 ≤ k := by omega
        cases he : eqC tb y1 y2
        · rw [he] at hdef
          have hsn := Lib.hid (hke.out he)
          have t1 : (X != Y) = true := by simp only [bne]; rw [← hdef]; rfl
          clear he hdef hke hsk
          have q6 : IntKind.i64.wrap ((k : Int) - 1) = (k : Int) - 1 := IntWalk.i64_in _ (by omega)
          go_wp2
          go_quiet ((first | (go_at_call 18; with_reducible exact Calls.quiet_of_same (hc1'.out _)) | (go_at_call 18; with_reducible exact Calls.quiet_of_same (hc2'.out _))))
          clear q6
          have hlp : ((cmpTo (eqC tb) xs k).map (Value.int .i64)).length + 1 ≤ n := by simp; omega
          go_wp2_with (first
            | (at_builtin; refine wpl_push rfl (.tmp 31) (.tmp 33) 22 3 rfl Try.underlying22 infoInt rfl w.heap.size _ ((cmpTo (eqC tb) xs k).map (Value.int .i64)) (.int .i64 y1) rfl rfl rfl (ho.drewN _) (by unfold maxLen; omega) (by omega) (by simpa using hsz) ?_))
          intro v' w1 ho' hp
          have hb1 := (below_drewN hb _).trans (hp.below (B := w.heap.size) (by simpa using hsz) (fun k hk => (ho.lt hk).1))
          have ho2 := Lib.hid (show Own 3 w.heap.size w1 v' ((cmpTo (eqC tb) xs (k + 1)).map (Value.int .i64)) by rw [hsn.out, List.map_append]; exact ho')
          clear ho' hp ho c1 c2 hle hb hsz hrd hlp q3 q4 q5 q7
          go_wp2
          go_roundw
          case rel => exact ⟨k + 1, by omega, by go_num, ho2.out, hb1⟩
          case measure => simp [intOf]; omega
        · rw [he] at hdef
          have hsn := Lib.hid (hsk.out he)
          have t1 : (X != Y) = false := by simp only [bne]; rw [← hdef]; rfl
          clear he hdef hke hsk
          have q6 : IntKind.i64.wrap ((k : Int) - 1) = (k : Int) - 1 := IntWalk.i64_in _ (by omega)
          go_wp2
          go_quiet ((first | (go_at_call 18; with_reducible exact Calls.quiet_of_same (hc1'.out _)) | (go_at_call 18; with_reducible exact Calls.quiet_of_same (hc2'.out _))))
          clear q6 q3 q4 q5 q7
          go_wp2
          go_roundw
          case rel => exact ⟨k + 1, by omega, by go_num, by rw [hsn.out]; exact ho.drewN _, below_drewN hb _⟩
          case measure => simp [intOf]; omega
    · obtain rfl : k = n := by omega
      have ho1 := Lib.hid ho
      clear ho
      go_wp2
      go_ret
      obtain ⟨a1, n1, c1, rfl, hr2⟩ := ho1.out.rd
      exact ⟨a1, n1, c1, rfl, hr2, hb⟩

end Go.Proofs.Ytgmnonijhgipbaa

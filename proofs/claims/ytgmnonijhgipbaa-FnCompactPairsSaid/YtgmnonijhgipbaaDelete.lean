/- impl.DeleteFunc, spec.Without and the law FnExactDeleteFunc, walked. -/
import Derived.Test.YtgmnonijhgipbaaDel
import Derived.Test.YtgmnonijhgipbaaSame
namespace Go.Proofs.Ytgmnonijhgipbaa
open Go.RowKit
set_option linter.unusedVariables false

/-- What impl.DeleteFunc (and impl.CompactFunc) comes to: the numbers that are left, zeros for the others, and whether it is nil. -/
def LeftPost (w : World) (a : Option Addr) (n : Nat) (ys : List Int) (e : Ending) (w' : World) : Prop :=
  ∃ a1 n1 c1 a2 n2 c2, e = .returned (.tuple #[.slice a1 n1 c1, .slice a2 n2 c2, .bool a.isNone]) ∧ Rd .i64 w' a1 n1 c1 ys ∧ Rd .i64 w' a2 n2 c2 (List.replicate (n - ys.length) 0) ∧ a1.isNone = a.isNone ∧ c1 ≤ n ∧ Below w.heap.size w w'

set_option maxHeartbeats 1000000 in
theorem delete_calls (w : World) (a : Option Addr) (n c : Nat) (xs : List Int) (ta : Option Addr) (tn tc : Nat) (tb : List Int) (hx : Rd .i64 w a n c xs) (ht : Rd .i64 w ta tn tc tb) (hc : n * 8 ≤ 140737488351232)
    (htl : ∀ ad, ta = some ad → ad.block < w.heap.size) :
    Calls Try.prog 21 #[.slice a n c, .slice ta tn tc] w (LeftPost w a n (without tb xs)) := by
  have hmf : ∀ (fn : Fn) (first cap : Array Value) (w : World), (Instr.makeFunc fn first cap).run Try.prog w = .ok (.func fn first cap) w := fun _ _ _ _ => rfl
  have hq := fun (u : World) (a : Option Addr) (n c : Nat) => Lib.run_eql_slice_nil (P := Try.prog) u 22 3 a n c 0 0 Try.underlying22
  have l := hx.le
  have hb0 : Below w.heap.size w (w.alloc (.cells #[.slice ta tn tc] 22)) := (Below.refl _ _).alloc (Nat.le_refl _) _
  have hx0 := Lib.hid (hx.below hb0 (Nat.le_refl _))
  have hlen := Lib.hid hx.len
  have htl' := Lib.hid htl
  clear htl
  have hle := without_le tb xs
  cases ha : a.isNone
  · -- the slice is not nil
    have hne : a.isNone = true → 0 < 0 := fun e => by rw [ha] at e; cases e
    have ha' := Lib.hid ha
    have hle' : (without tb xs).length ≤ n := by have := hlen.out; omega
    clear ha hle
    go_enter Try.func21, Try.ntmps21
    go_wp2_with fail
    refine (spare_calls a n c 0 xs _ hx0.out hc (by omega) hne).mono ?_
    rintro e w1 ⟨rfl, hg, hb1⟩
    have hg1 : w1.heap[w.heap.size + 1]? = some (.cells (xs.map (Value.int .i64)).toArray 3 (0, 0)) := by simpa [spareCells] using hg
    have hB1 : w1.cell? ⟨w.heap.size, 0, none⟩ = some (.slice ta tn tc) := blk_cell (l := [.slice ta tn tc]) ((hb1.block w.heap.size (by simp)).trans (heap_alloc_new w _)) rfl
    have hbw := hb0.trans (hb1.mono hb0.size)
    have hsz := hb1.size
    simp only [World.size_alloc] at hsz
    have hg1' := Lib.hid hg1
    have hB1' := Lib.hid hB1
    clear hg hb1 hb0 hne hg1 hB1 hx0
    go_wp2_with fail
    refine (ldelete_calls w1 (w.heap.size + 1) n n xs w.heap.size ta tn tc tb hlen.out (Nat.le_refl _) (by omega) hg1'.out hB1'.out (by omega) (ht.below hbw (Nat.le_refl _)) (fun ad e => by have := htl'.out ad e; omega)).mono ?_
    rintro e w2 ⟨rfl, hg2, hs2⟩
    have hb2 := hbw.trans (hs2.below (B := w.heap.size) (by omega))
    have hg2' := Lib.hid hg2
    clear hg2 hs2 hbw hB1' hg1'
    generalize hys : without tb xs = ys at hle' hg2'
    have hys' := Lib.hid hys
    clear hys
    have hcut := fun u => run_cut_low (P := Try.prog) u 22 3 (some ⟨w.heap.size + 1, 0, none⟩) n n ys.length .i64 Try.underlying22 sizeInt (ys.length : Int) rfl hle'
    have hb3 : Below w2.heap.size w2 (w2.alloc (.cells #[] 3)) := (Below.refl _ _).alloc (Nat.le_refl _) _
    have o1 := Lib.hid (Own.empty 3 w2.heap.size w2 (Nat.le_refl _))
    have hs3 : w2.heap.size ≤ (w2.alloc (.cells #[] 3)).heap.size := hb3.size
    have hall : Rd .i64 w2 (some ⟨w.heap.size + 1, 0, none⟩) n n (ys ++ List.replicate (n - ys.length) 0) :=
      Rd.blk hg2'.out (by simp; omega) (Nat.le_refl _) (by unfold maxLen; omega) fun i hi => by rw [Nat.zero_add]; exact getD_map_int .i64 _ i (by simp; omega)
    have hrest : Rd .i64 w2 (cutA (some ⟨w.heap.size + 1, 0, none⟩) n ys.length) (n - ys.length) (n - ys.length) (List.replicate (n - ys.length) 0) := by
      have := hall.cut (lo := ys.length) (hi := n) hle' (Nat.le_refl _)
      rw [List.take_of_length_le (by simp; omega), List.drop_left] at this
      exact this
    have hr' := Lib.hid (hrest.below hb3 (Nat.le_refl _))
    have hout : Hid (Rd .i64 w2 (some ⟨w.heap.size + 1, 0, none⟩) ys.length n ys) := by
      have := hall.cut (lo := 0) (hi := ys.length) (Nat.zero_le _) hle'
      rw [cutA_zero, List.take_left, List.drop_zero] at this
      exact this
    clear hall hrest
    generalize hca : cutA (some ⟨w.heap.size + 1, 0, none⟩) n ys.length = ca at hcut hr'
    clear hca
    go_wp2_with (first
      | (at_builtin; refine wpl_join rfl (.tmp 15) (.tmp 19) 22 3 rfl Try.underlying22 infoInt rfl w2.heap.size _ [] _ (ints_one .i64 _) rfl ca (n - ys.length) (n - ys.length) rfl (by simp) hr'.out.2.2.2.1 hr'.out.cells o1.out (by simp [maxLen]; omega) (by simp; omega) hs3 ?_))
    intro v1 w3 o2 pu
    have hb4 : Below w2.heap.size w2 w3 := hb3.trans (pu.below hs3 (fun k hk => (o1.out.lt hk).1))
    have hb5 := hb2.trans (hb4.mono hb2.size)
    have o3 : Own 3 w2.heap.size w3 v1 ((List.replicate (n - ys.length) (0 : Int)).map (Value.int .i64)) := by simpa using o2
    obtain ⟨a3, n3, c3, rfl, r3⟩ := o3.rd
    have r3' := Lib.hid r3
    have hout' := Lib.hid (hout.out.below hb4 (Nat.le_refl _))
    clear o2 o3 pu hb3 hs3 r3 hr' hout o1 hb4 hcut
    go_wp2
    go_ret3
    rw [hys'.out]
    exact ⟨_, _, _, a3, n3, c3, by rw [ha'.out]; rfl, hout'.out, r3'.out, by rw [ha'.out]; rfl, Nat.le_refl _, hb5⟩
  · -- the slice is nil
    obtain rfl : a = none := by simpa using ha
    obtain ⟨rfl, rfl⟩ := hx.2.2.2.1 rfl
    obtain rfl : xs = [] := List.eq_nil_of_length_eq_zero hx.len
    clear hx hx0 hlen hle l
    go_enter Try.func21, Try.ntmps21
    go_wp2_with fail
    refine (spare_nil _).mono ?_
    rintro e w1 ⟨rfl, rfl⟩
    have hB1 : (w.alloc (.cells #[.slice ta tn tc] 22)).cell? ⟨w.heap.size, 0, none⟩ = some (.slice ta tn tc) := blk_cell (l := [.slice ta tn tc]) (heap_alloc_new w _) rfl
    have hB1' := Lib.hid hB1
    clear hB1
    have htb := Lib.hid (ht.below hb0 (Nat.le_refl _))
    go_wp2_with fail
    refine (ldelete_nil _ w.heap.size ta tn tc tb hB1'.out htb.out).mono ?_
    rintro e w2 ⟨rfl, rfl⟩
    clear hB1' htb
    generalize w.alloc (.cells #[.slice ta tn tc] 22) = w2 at hb0
    have hcut := fun u => run_cut_low (P := Try.prog) u 22 3 none 0 0 0 .i64 Try.underlying22 sizeInt 0 rfl (Nat.le_refl _)
    rw [cutA_none] at hcut
    have hb3 : Below w2.heap.size w2 (w2.alloc (.cells #[] 3)) := (Below.refl _ _).alloc (Nat.le_refl _) _
    have o1 := Lib.hid (Own.empty 3 w2.heap.size w2 (Nat.le_refl _))
    have hs3 : w2.heap.size ≤ (w2.alloc (.cells #[] 3)).heap.size := hb3.size
    go_wp2_with (first
      | (at_builtin; refine wpl_join rfl (.tmp 15) (.tmp 19) 22 3 rfl Try.underlying22 infoInt rfl w2.heap.size _ [] [] (by intro y hy; cases hy) rfl none 0 0 rfl rfl (fun _ => ⟨rfl, rfl⟩) (by intro ad e; cases e) o1.out (by simp [maxLen]) (by simp) hs3 ?_))
    intro v1 w3 o2 pu
    have hb4 : Below w2.heap.size w2 w3 := hb3.trans (pu.below hs3 (fun k hk => (o1.out.lt hk).1))
    have hb5 := hb0.trans (hb4.mono hb0.size)
    have o3 : Own 3 w2.heap.size w3 v1 (([] : List Int).map (Value.int .i64)) := by simpa using o2
    obtain ⟨a3, n3, c3, rfl, r3⟩ := o3.rd
    have r3' := Lib.hid r3
    clear o2 o3 pu hb3 hs3 r3 o1 hb4 hcut
    go_wp2
    go_ret3
    exact ⟨none, 0, 0, a3, n3, c3, rfl, Rd.nil _ _, by simpa using r3'.out, rfl, Nat.le_refl _, hb5⟩

/-- What spec.Without (and spec.Compact) comes to. -/
def ListPost (w : World) (ys : List Int) (e : Ending) (w' : World) : Prop :=
  ∃ a n c, e = .returned (.slice a n c) ∧ Rd .i64 w' a n c ys ∧ Below w.heap.size w w'

set_option maxHeartbeats 400000 in
theorem without_calls (w : World) (a : Option Addr) (n c : Nat) (xs : List Int) (ta : Option Addr) (tn tc : Nat) (tb : List Int) (hx : Rd .i64 w a n c xs) (ht : Rd .i64 w ta tn tc tb) (hn : n * 8 ≤ 140737488351232) :
    Calls Try.prog 22 #[.slice a n c, .slice ta tn tc] w (ListPost w (without tb xs)) := by
  have hnot : ∀ (x : Bool) (w : World), (Op.unary .not (.bool x)).run Try.prog w = .ok (.bool (!x)) w := fun _ _ => rfl
  have l := hx.le
  have hl := Lib.hid hx.len
  go_enter Try.func22, Try.ntmps22
  go_wp2
  go_loopw [5, 11] (fun v i wr => ∃ k : Nat, k ≤ n ∧ i = .int .i64 k ∧ Own 3 w.heap.size wr v ((without tb (xs.take k)).map (Value.int .i64)) ∧ Below w.heap.size w wr) (fun _ i _ => n - (intOf i).toNat)
  case atStart => exact ⟨0, Nat.zero_le _, rfl, Own.empty _ _ _ (Nat.le_refl _), (Below.refl _ _).alloc (Nat.le_refl _) _⟩
  case round =>
    obtain ⟨k, hk, rfl, ho, hb⟩ := hrel
    by_cases hlt : k < n
    · obtain ⟨b, o, rfl, hblt, f1⟩ := (hx.below hb (Nat.le_refl _)).at (by omega)
      have c1 := f1 k hlt
      clear f1
      have hkl := Lib.hid (show k < xs.length by rw [hl.out]; exact hlt)
      generalize hy : xs.getD k 0 = y at c1
      have hy' := Lib.hid hy
      clear hy
      have hsz := hb.size
      have hle : (without tb (xs.take k)).length + 1 ≤ n := by have := without_le tb (xs.take k); simp at this; omega
      have hrd := Lib.hid (ht.below hb (Nat.le_refl _))
      have hsn := without_snoc tb xs k hkl.out
      rw [hy'.out] at hsn
      generalize hys : without tb (xs.take k) = ys at ho hle hsn
      clear hys
      go_wp2_with fail
      refine (has_calls _ _ _ _ _ _ hrd.out).mono ?_
      rintro e w2 ⟨rfl, rfl⟩
      by_cases hm : y ∈ tb
      · rw [if_pos hm, List.append_nil] at hsn
        have hsn' := Lib.hid hsn
        simp only [hm, decide_true]
        clear hm hsn
        go_wp2
        go_roundw
        case rel => exact ⟨k + 1, by omega, by go_num, by rw [hsn'.out]; exact ho, hb⟩
        case measure => simp [intOf]; omega
      · rw [if_neg hm] at hsn
        have hsn' := Lib.hid hsn
        simp only [hm, decide_false]
        clear hm hsn
        go_wp2_with (first
          | (at_builtin; refine wpl_push rfl (.tmp 19) (.tmp 21) 22 3 rfl Try.underlying22 infoInt rfl w.heap.size _ (ys.map (Value.int .i64)) (.int .i64 y) rfl rfl rfl ho (by simp [maxLen]; omega) (by simp; omega) hsz ?_))
        intro v' w1 ho' hp
        have hbp := hp.below hsz (fun k hk => (ho.lt hk).1)
        have hb1 := hb.trans hbp
        have ho2 := Lib.hid (show Own 3 w.heap.size w1 v' ((without tb (xs.take (k + 1))).map (Value.int .i64)) by rw [hsn'.out, List.map_append]; exact ho')
        clear ho' hp ho c1 hle hbp hb hsz hrd
        go_wp2
        go_roundw
        case rel => exact ⟨k + 1, by omega, by go_num, ho2.out, hb1⟩
        case measure => simp [intOf]; omega
    · have he : xs.take k = xs := List.take_of_length_le (by rw [hl.out]; omega)
      rw [he] at ho
      have ho1 := Lib.hid ho
      clear he ho
      go_wp2
      go_ret
      obtain ⟨a1, n1, c1, rfl, hr2⟩ := ho1.out.rd
      exact ⟨a1, n1, c1, rfl, hr2, hb⟩

end Go.Proofs.Ytgmnonijhgipbaa

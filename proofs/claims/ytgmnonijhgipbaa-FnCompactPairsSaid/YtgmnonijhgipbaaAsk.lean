/- impl.ContainsFunc: which elements are asked, and whether one of them is in the table. -/
import Derived.Test.YtgmnonijhgipbaaProg
import Derived.Test.YtgmnonijhgipbaaOwn
import Derived.Test.YtgmnonijhgipbaaSpare
import Derived.Test.YtgmnonijhgipbaaFind
namespace Go.Proofs.Ytgmnonijhgipbaa
open Go.RowKit
set_option linter.unusedVariables false

/-- What the closure of ContainsFunc keeps: its two captured variables, and the list of what was asked. -/
structure Ask (w0 w : World) (ta : Option Addr) (tn tc : Nat) (v : Value) (ys : List Int) : Prop where
  below : Below w0.heap.size w0 w
  tab : w.heap[w0.heap.size]? = some (.cells #[.slice ta tn tc] 22 (0, 0))
  var : w.heap[w0.heap.size + 2]? = some (.cells #[v] 22 (0, 0))
  own : Own 3 (w0.heap.size + 1) w v (ys.map (Value.int .i64))
  ne : v.ownBlock ≠ some (w0.heap.size + 2)

theorem Ask.push {w0 w w1 : World} {ta : Option Addr} {tn tc : Nat} {v v' : Value} {ys : List Int} {x : Int} (h : Ask w0 w ta tn tc v ys)
    (ho : Own 3 (w0.heap.size + 1) w1 v' (ys.map (Value.int .i64) ++ [.int .i64 x])) (hp : Pushed w w1 v v') :
    Ask w0 (w1.setCell ⟨w0.heap.size + 2, 0, none⟩ v') ta tn tc v' (ys ++ [x]) := by
  have hA := blk_lt h.var
  have hT := blk_lt h.tab
  have hbase : ∀ k, v.ownBlock = some k → w0.heap.size + 1 ≤ k := fun k hk => (h.own.lt hk).1
  have hneT : v.ownBlock ≠ some w0.heap.size := fun e => by have := hbase _ e; omega
  have hne' := hp.ne hA h.ne
  have e1 : w1.heap[w0.heap.size + 2]? = some (.cells #[v] 22 (0, 0)) := (hp.other hA h.ne).trans h.var
  refine ⟨below_set (h.below.trans ((hp.below (B := w0.heap.size) (by omega) (fun k hk => by have := hbase k hk; omega)))) (by omega), ?_, ?_, ?_, hne'⟩
  · rw [blk_other (by omega), hp.other hT hneT]; exact h.tab
  · exact blk_set (l := [v]) e1
  · rw [List.map_append]
    refine ho.keep fun k hk => blk_other fun e => hne' (by rw [hk, e])

set_option maxHeartbeats 400000 in
theorem asker_calls (w0 w : World) (ta : Option Addr) (tn tc : Nat) (tb ys : List Int) (v : Value) (x : Int) (ht : Rd .i64 w0 ta tn tc tb) (h : Ask w0 w ta tn tc v ys) (hl : (ys.length + 1) * 8 ≤ 140737488355328) :
    Calls Try.prog 38 #[.int .i64 x, .pointer (some ⟨w0.heap.size + 2, 0, none⟩), .pointer (some ⟨w0.heap.size, 0, none⟩)] w fun e w' =>
      e = .returned (.bool (decide (x ∈ tb))) ∧ ∃ v', Ask w0 w' ta tn tc v' (ys ++ [x]) := by
  have c1 : w.cell? ⟨w0.heap.size + 2, 0, none⟩ = some v := blk_cell (l := [v]) h.var rfl
  obtain ⟨a1, n1, k1, rfl, _⟩ := h.own.rd
  have hb := Lib.hid (Nat.lt_of_lt_of_le (Nat.lt_succ_self _) (Nat.succ_le_of_lt (blk_lt h.tab)))
  go_enter Try.func38, Try.ntmps38
  go_wp2_with (first
    | (at_builtin; refine wpl_push rfl (.tmp 5) (.tmp 7) 22 3 rfl Try.underlying22 infoInt rfl (w0.heap.size + 1) _ _ (.int .i64 x) rfl rfl rfl h.own (by simp [maxLen]; omega) (by simp; omega) (by have := hb.out; omega) ?_))
  intro v' w1 ho hp
  have R := h.push ho hp
  obtain ⟨a2, n2, c2, hv⟩ := own_any ho
  rw [hv] at R
  have hx1 := blk_lt h.var
  have hx2 : w1.heap[w0.heap.size + 2]? = some (.cells [Value.slice a1 n1 k1].toArray 22 (0, 0)) := (hp.other hx1 h.ne).trans h.var
  have hc2 : w1.cell? ⟨w0.heap.size + 2, 0, none⟩ = some (.slice a1 n1 k1) := blk_cell hx2 rfl
  have hf2 : w1.frozen? ⟨w0.heap.size + 2, 0, none⟩ = false := blk_free hx2
  have hR := Lib.hid R
  have hc3 : (w1.setCell ⟨w0.heap.size + 2, 0, none⟩ (.slice a2 n2 c2)).cell? ⟨w0.heap.size, 0, none⟩ = some (.slice ta tn tc) := blk_cell (l := [_]) R.tab rfl
  have hrd := Lib.hid (ht.below R.below (Nat.le_refl _))
  clear R hx2 ho hp c1 h
  rw [hv]
  clear hv
  go_wp2_with fail
  refine (in_calls _ _ _ _ _ _ hrd.out).mono ?_
  rintro e w2 ⟨rfl, rfl⟩
  go_wp2
  go_ret
  exact ⟨rfl, _, hR.out⟩

/-- The elements up to the first one that is in the table, this included. -/
def askedL (tb : List Int) : List Int → List Int
  | [] => []
  | x :: l => if x ∈ tb then [x] else x :: askedL tb l
/-- Whether an element is in the table. -/
def anyL (tb xs : List Int) : Bool := xs.any fun x => decide (x ∈ tb)
theorem asked_hit (tb xs : List Int) (k : Nat) (h : k < xs.length) (h1 : ∀ x, x ∈ xs.take k → x ∉ tb) (h2 : xs.getD k 0 ∈ tb) : askedL tb xs = xs.take (k + 1) ∧ anyL tb xs = true := by
  induction xs generalizing k with
  | nil => simp at h
  | cons x l ih =>
    cases k with
    | zero => simp at h2; simp [askedL, anyL, h2]
    | succ k =>
      have hx : x ∉ tb := h1 x (by simp)
      have := ih k (by simpa using h) (fun y hy => h1 y (by simp [hy])) (by simpa using h2)
      simp only [askedL, if_neg hx, this.1, List.take_succ_cons, true_and]
      simpa [anyL, hx] using this.2
theorem asked_miss (tb xs : List Int) (h1 : ∀ x, x ∈ xs → x ∉ tb) : askedL tb xs = xs ∧ anyL tb xs = false := by
  induction xs with
  | nil => simp [askedL, anyL]
  | cons x l ih =>
    have hx : x ∉ tb := h1 x (by simp)
    have := ih (fun y hy => h1 y (by simp [hy]))
    simp only [askedL, if_neg hx, this.1, true_and]
    simpa [anyL, hx] using this.2
theorem none_succ {tb xs : List Int} {k : Nat} (h : k < xs.length) (h1 : ∀ x, x ∈ xs.take k → x ∉ tb) (h2 : xs.getD k 0 ∉ tb) : ∀ x, x ∈ xs.take (k + 1) → x ∉ tb := by
  intro x hx
  rw [List.take_succ_eq_append_getElem h, List.mem_append] at hx
  rcases hx with hx | hx
  · exact h1 x hx
  · simp [List.getD_eq_getElem?_getD, h] at h2 hx
    rw [hx]; exact h2
theorem take_getD {xs : List Int} {k : Nat} (h : k < xs.length) : xs.take k ++ [xs.getD k 0] = xs.take (k + 1) := by
  rw [List.take_succ_eq_append_getElem h]
  simp [List.getD_eq_getElem?_getD, h]

/-- What IndexFunc comes to: an index that is negative where no element is in the table. -/
def FoundAsk (w0 : World) (ta : Option Addr) (tn tc : Nat) (tb xs : List Int) (e : Ending) (w' : World) : Prop :=
  ∃ i : Int, e = .returned (.int .i64 i) ∧ decide (0 ≤ i) = anyL tb xs ∧ ∃ v', Ask w0 w' ta tn tc v' (askedL tb xs)

set_option maxHeartbeats 400000 in
theorem indexAsk_calls (w0 w : World) (a : Option Addr) (n c : Nat) (xs : List Int) (ta : Option Addr) (tn tc : Nat) (tb : List Int) (v : Value) (hx : Rd .i64 w0 a n c xs) (ht : Rd .i64 w0 ta tn tc tb)
    (hn : n * 8 ≤ 140737488351232) (h : Ask w0 w ta tn tc v []) :
    Calls Try.prog 39 #[.slice a n c, .func (.func 38) #[] #[.pointer (some ⟨w0.heap.size + 2, 0, none⟩), .pointer (some ⟨w0.heap.size, 0, none⟩)]] w
      (FoundAsk w0 ta tn tc tb xs) := by
  have l := hx.le
  have hl := Lib.hid hx.len
  go_enter Try.func39, Try.ntmps39
  go_wp2
  go_loopw [8] (fun i wr => ∃ k : Nat, k ≤ n ∧ i = .int .i64 k ∧ ∃ v, Ask w0 wr ta tn tc v (xs.take k) ∧ Hid (∀ x, x ∈ xs.take k → x ∉ tb)) (fun i _ => n - (intOf i).toNat)
  case atStart => exact ⟨0, Nat.zero_le _, rfl, v, by simpa using h, by intro x hx; simp at hx⟩
  case round =>
    clear h v
    obtain ⟨k, hk, rfl, v, hA, hno⟩ := hrel
    by_cases hlt : k < n
    · obtain ⟨b, o, rfl, _, f1⟩ := (hx.below hA.below (Nat.le_refl _)).at (by omega)
      have c1 := f1 k hlt
      clear f1
      have hkl := Lib.hid (show k < xs.length by rw [hl.out]; exact hlt)
      generalize hy : xs.getD k 0 = y at c1
      have hy' := Lib.hid hy
      clear hy
      have hkt : ((xs.take k).length + 1) * 8 ≤ 140737488355328 := by simp; omega
      go_wp2_with fail
      refine (asker_calls w0 wr ta tn tc tb (xs.take k) v y ht hA hkt).mono ?_
      clear hkt
      by_cases hm : y ∈ tb
      · have hr := asked_hit tb xs k hkl.out hno.out (by rw [hy'.out]; exact hm)
        rintro e w1 ⟨rfl, v', hA'⟩
        rw [← hy'.out, take_getD hkl.out, ← hr.1] at hA'
        have hA2 := Lib.hid hA'
        have hr2 := Lib.hid hr.2
        clear hA' hr hA c1
        simp only [hm, decide_true]
        clear hm
        go_wp2
        go_ret
        exact ⟨k, rfl, by rw [hr2.out]; simp, v', hA2.out⟩
      · rintro e w1 ⟨rfl, v', hA'⟩
        have hno' := Lib.hid (none_succ hkl.out hno.out (by rw [hy'.out]; exact hm))
        rw [← hy'.out, take_getD hkl.out] at hA'
        have hA2 := Lib.hid hA'
        clear hA' hA c1
        simp only [hm, decide_false]
        clear hm
        go_wp2
        go_roundw
        case rel => exact ⟨k + 1, by omega, by go_num, v', hA2.out, hno'.out⟩
        case measure => simp [intOf]; omega
    · have he : xs.take k = xs := List.take_of_length_le (by rw [hl.out]; omega)
      have hr := asked_miss tb xs (by have := hno.out; rwa [he] at this)
      rw [he, ← hr.1] at hA
      have hA2 := Lib.hid hA
      have hr2 := Lib.hid hr.2
      clear hA hr he
      go_wp2
      go_ret
      exact ⟨-1, rfl, by rw [hr2.out]; simp, v, hA2.out⟩

end Go.Proofs.Ytgmnonijhgipbaa

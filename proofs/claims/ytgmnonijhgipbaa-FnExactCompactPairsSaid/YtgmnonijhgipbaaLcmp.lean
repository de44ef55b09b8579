/- slices.CompactFunc with the closures of impl. -/
import Derived.Test.YtgmnonijhgipbaaCmp
import Derived.Test.YtgmnonijhgipbaaNums
import Derived.StillTailTactics
namespace Go.Proofs.Ytgmnonijhgipbaa
open Go.RowKit
set_option linter.unusedVariables false

/-- What slices.CompactFunc comes to, of a slice in a block of its own. -/
def CmpPost (w : World) (g n c : Nat) (ys : List Int) (e : Ending) (w' : World) : Prop :=
  e = .returned (.slice (some ⟨g, 0, none⟩) ys.length c) ∧ w'.heap[g]? = some (.cells ((ys ++ List.replicate (n - ys.length) 0).map (Value.int .i64)).toArray 3 (0, 0)) ∧ Save g w w'

theorem Save.blk {g : Nat} {w w' : World} {L : List Value} {t : TypeId} (h : Below w.heap.size w w') (hg : w.heap[g]? = some (.cells L.toArray t (0, 0))) : w'.heap[g]? = some (.cells L.toArray t (0, 0)) := (h.block g (blk_lt hg)).trans hg
theorem first_one {eq : Int → Int → Bool} {xs : List Int} {n : Nat} (h : xs.length = n) (hn : 1 ≤ n) : cmpTo eq xs 1 = xs.take 1 := by
  rw [cmpTo_keep (.inl rfl), ← take_getD (by omega)]
  simp [cmpTo]
theorem Save.step {g : Nat} {w w1 w2 : World} (h : Save g w w1) (hb : Below w1.heap.size w1 w2) : Save g w w2 := h.trans (Save.of_below hb (Nat.le_refl _))

set_option maxHeartbeats 2000000 in
theorem lcompactC_calls (w : World) (g n c : Nat) (xs : List Int) (B : Nat) (eq : Int → Int → Bool) (hl : xs.length = n) (hc : n ≤ c) (hm : c ≤ 9223372036854775807)
    (hg : w.heap[g]? = some (.cells (xs.map (Value.int .i64)).toArray 3 (0, 0)))
    (hcall : ∀ (u : World) (x y : Int), Save g w u → x ∈ xs → y ∈ xs → Calls Try.prog 30 #[.int .i64 x, .int .i64 y, .pointer (some ⟨B, 0, none⟩)] u fun e u' => e = .returned (.bool (eq x y)) ∧ Below u.heap.size u u') :
    Calls Try.prog 25 #[.slice (some ⟨g, 0, none⟩) n c, .func (.func 30) #[] #[.pointer (some ⟨B, 0, none⟩)]] w (CmpPost w g n c (cmpTo eq xs n)) := by
  have hnot : ∀ (x : Bool) (w : World), (Op.unary .not (.bool x)).run Try.prog w = .ok (.bool (!x)) w := fun _ _ => rfl
  have hg' := Lib.hid hg
  have hl' := Lib.hid hl
  have hcall' := Lib.hid hcall
  clear hg hl hcall
  by_cases hn2 : n < 2
  · have hall : cmpTo eq xs n = xs := by
      have e := hl'.out
      match n, hn2, e with
      | 0, _, e => simp [cmpTo, List.eq_nil_of_length_eq_zero e]
      | 1, _, e =>
        obtain ⟨x, rfl⟩ := List.length_eq_one_iff.1 e
        simp [cmpTo]
    have hall' := Lib.hid hall
    clear hall
    go_enter Try.func25, Try.ntmps25
    go_wp2
    go_ret
    rw [hall'.out]
    refine ⟨by rw [hl'.out]; rfl, ?_, Save.refl _ _⟩
    rw [hl'.out]
    simpa using hg'.out
  have tn : decide ((n : Int) < 2) = false := by simp; omega
  go_enter Try.func25, Try.ntmps25
  go_wp2
  go_loopw [5] (fun vk wr => ∃ k : Nat, 1 ≤ k ∧ k ≤ n ∧ vk = .int .i64 (k : Int) ∧ Save g w wr ∧ Hid (wr.heap[g]? = some (.cells (xs.map (Value.int .i64)).toArray 3 (0, 0))) ∧ Hid (cmpTo eq xs k = xs.take k)) (fun vk _ => n - (intOf vk).toNat)
  case atStart => exact ⟨1, Nat.le_refl _, by omega, rfl, Save.refl _ _, hg', first_one hl'.out (by omega)⟩
  case round =>
    obtain ⟨k, hk1, hk, rfl, hs, hgr, hall⟩ := hrel
    by_cases hlt : k < n
    · have hkl := Lib.hid (show k < xs.length by rw [hl'.out]; exact hlt)
      have hc1 : wr.cell? ⟨g, k, none⟩ = some (.int .i64 (xs.getD k 0)) := blk_cell hgr.out (getD_map_int .i64 xs k hkl.out)
      have hc2 : wr.cell? ⟨g, k - 1, none⟩ = some (.int .i64 (xs.getD (k - 1) 0)) := blk_cell hgr.out (getD_map_int .i64 xs (k - 1) (by have := hkl.out; omega))
      have hx1 := Lib.hid (getD_mem (xs := xs) (k := k) hkl.out)
      have hx2 := Lib.hid (getD_mem (xs := xs) (k := k - 1) (by have := hkl.out; omega))
      generalize hy1 : xs.getD k 0 = y1 at hc1 hx1
      generalize hy2 : xs.getD (k - 1) 0 = y2 at hc2 hx2
      have hy1' := Lib.hid hy1
      have hy2' := Lib.hid hy2
      clear hy1 hy2
      have q1 : (0 : Int) ≤ (k : Int) := by omega
      have q2 : (k : Int) < (n : Int) := by omega
      have q3 : (0 : Int) ≤ (k : Int) - 1 := by omega
      have q4 : (k : Int) - 1 < (n : Int) := by omega
      have q5 : ((k : Int) - 1).toNat = k - 1 := by omega
      have q7 : (1 : Int) ≤ (k : Int) := by omega
      have q8 : 1 ≤ k := hk1
      have q6 : IntKind.i64.wrap ((k : Int) - 1) = (k : Int) - 1 := IntWalk.i64_in _ (by omega)
      go_wp2
      go_still_tail 10, (by kernel_rfl)
      clear q6
      go_wp2_with fail
      refine (hcall'.out wr.drew y1 y2 ⟨hs.os, hs.tape, hs.output, hs.size, hs.block⟩ hx1.out hx2.out).mono ?_
      rintro e w1 ⟨rfl, hb0⟩
      have hb1 : Below wr.heap.size wr w1 := ⟨hb0.os, hb0.tape, hb0.output, hb0.size, hb0.block⟩
      have hs1 := hs.step hb1
      have hg1 := Lib.hid (Save.blk hb1 hgr.out)
      clear hb0 hb1 hs hgr hc1 hc2 hx1 hx2
      cases he : eq y1 y2
      · have hall1 := Lib.hid (cmpTo_all hkl.out hall.out (.inr (by rw [hy1'.out, hy2'.out]; exact he)))
        clear he
        go_wp2
        go_roundw
        case rel => exact ⟨k + 1, by omega, by omega, by go_num, hs1, hg1, hall1⟩
        case measure => simp [intOf]; omega
      · -- the first pair of equals: what follows is moved forward
        have hst := Lib.hid (CmpCells.start hkl.out (by omega) hall.out (by rw [hy1'.out, hy2'.out, he]; simp; omega))
        have hlen : Hid ((cmpTo eq xs (k + 1)).length = k) := by
          show _ = _
          rw [cmpTo_skip (by rw [hy1'.out, hy2'.out, he]; simp; omega), hall.out, List.length_take]
          have := hkl.out
          omega
        obtain ⟨m, hm1⟩ : ∃ m, n = k + m := ⟨n - k, by omega⟩
        have hm2 : k + m ≤ n := by omega
        have hm3 : n ≤ k + m := by omega
        have hcut := fun u => run_cut_low (P := Try.prog) u 22 3 (some ⟨g, 0, none⟩) n c k .i64 Try.underlying22 sizeInt (k : Int) rfl (by omega)
        rw [cutA_lt (by omega), show n - k = m by omega, Nat.zero_add] at hcut
        clear he hm1 q1 q2 q3 q4 q5 q7 hall hy1' hy2'
        go_wp2
        go_loopw [5, 7] (fun vk vj wr => ∃ i j : Nat, 1 ≤ j ∧ j ≤ m ∧ i < k + j ∧ vk = .int .i64 (i : Int) ∧ vj = .int .i64 (j : Int) ∧ Hid (i = (cmpTo eq xs (k + j)).length) ∧ Save g w wr ∧ ∃ L : List Value, CmpCells eq xs (k + j) L ∧ Hid (wr.heap[g]? = some (.cells L.toArray 3 (0, 0)))) (fun _ vj _ => m - (intOf vj).toNat)
        case atStart => exact ⟨k, 1, Nat.le_refl _, by omega, by omega, rfl, rfl, hlen.out.symm, hs1, _, hst.out, hg1⟩
        case round =>
          clear hst hlen hs1 hg1 hcut
          obtain ⟨i, j, hj1, hj, hij, rfl, rfl, hi, hs, L, hL, hgr⟩ := hrel
          by_cases hlt2 : j < m
          · have hjl := Lib.hid (show k + j < xs.length by rw [hl'.out]; omega)
            have hc1 : wr.cell? ⟨g, k + j, none⟩ = some (.int .i64 (xs.getD (k + j) 0)) := blk_cell hgr.out (hL.get hjl.out (by omega))
            have hc2 : wr.cell? ⟨g, k + (j - 1), none⟩ = some (.int .i64 (xs.getD (k + j - 1) 0)) := by
              rw [show k + (j - 1) = k + j - 1 by omega]
              exact blk_cell hgr.out (hL.get (by have := hjl.out; omega) (by omega))
            have hx1 := Lib.hid (getD_mem (xs := xs) (k := k + j) hjl.out)
            have hx2 := Lib.hid (getD_mem (xs := xs) (k := k + j - 1) (by have := hjl.out; omega))
            generalize hy1 : xs.getD (k + j) 0 = y3 at hc1 hx1
            generalize hy2 : xs.getD (k + j - 1) 0 = y4 at hc2 hx2
            have hy1' := Lib.hid hy1
            have hy2' := Lib.hid hy2
            clear hy1 hy2
            have q1 : (0 : Int) ≤ (j : Int) := by omega
            have q2 : (j : Int) < (m : Int) := by omega
            have q3 : (0 : Int) ≤ (j : Int) - 1 := by omega
            have q4 : (j : Int) - 1 < (m : Int) := by omega
            have q5 : ((j : Int) - 1).toNat = j - 1 := by omega
            have q7 : (1 : Int) ≤ (j : Int) := by omega
            have q6 : IntKind.i64.wrap ((j : Int) - 1) = (j : Int) - 1 := IntWalk.i64_in _ (by omega)
            go_wp2
            go_still_tail 10, (by kernel_rfl)
            clear q6
            go_wp2_with fail
            refine (hcall'.out wr.drew y3 y4 ⟨hs.os, hs.tape, hs.output, hs.size, hs.block⟩ hx1.out hx2.out).mono ?_
            rintro e w2 ⟨rfl, hb0⟩
            have hb1 : Below wr.heap.size wr w2 := ⟨hb0.os, hb0.tape, hb0.output, hb0.size, hb0.block⟩
            have hs1 := hs.step hb1
            have hg1 := Lib.hid (Save.blk hb1 hgr.out)
            clear hb0 hb1 hs hgr hc1 hc2 hx1 hx2
            have hil : i < L.length := by rw [hL.1, hl'.out]; omega
            have hc1 : w2.cell? ⟨g, k + j, none⟩ = some (.int .i64 y3) := by rw [← hy1'.out]; exact blk_cell hg1.out (hL.get hjl.out (by omega))
            obtain ⟨u, hci⟩ : ∃ u, w2.cell? ⟨g, i, none⟩ = some u := ⟨L[i], blk_cell hg1.out (by simp [hil])⟩
            have hfi : w2.frozen? ⟨g, i, none⟩ = false := blk_free hg1.out
            cases he : eq y3 y4
            · have hke : k + j = 0 ∨ eq (xs.getD (k + j) 0) (xs.getD (k + j - 1) 0) = false := .inr (by rw [hy1'.out, hy2'.out]; exact he)
              have hL' := Lib.hid (hL.keep (by omega) hjl.out hke)
              have hi' : Hid (i + 1 = (cmpTo eq xs (k + (j + 1))).length) := by
                show _ = _
                rw [← Nat.add_assoc, cmpTo_keep hke, List.length_append, ← hi.out]; rfl
              have hgn := Lib.hid (blk_set (o := i) (v := .int .i64 y3) hg1.out)
              have hsn := hs1.trans (Save.of_sole (Sole.set g i w2 (.int .i64 y3)))
              clear he hke hL hil hs1 q3 q4 q5 q7
              go_wp2
              go_roundw
              case rel => exact ⟨i + 1, j + 1, by omega, by omega, by omega, by go_num, by go_num, hi', hsn, _, by have := hL'.out; rw [← hi.out, hy1'.out] at this; exact this, hgn⟩
              case measure => simp [intOf]; omega
            · have hke : ¬ (k + j = 0 ∨ eq (xs.getD (k + j) 0) (xs.getD (k + j - 1) 0) = false) := by rw [hy1'.out, hy2'.out, he]; simp; omega
              have hL' := Lib.hid (hL.skip (by omega) hke)
              have hi' : Hid (i = (cmpTo eq xs (k + (j + 1))).length) := by
                show _ = _
                rw [← Nat.add_assoc, cmpTo_skip hke]; exact hi.out
              clear he hke hL hil hc1 hci hfi q3 q4 q5 q7
              go_wp2
              go_roundw
              case rel => exact ⟨i, j + 1, by omega, by omega, by omega, by go_num, by go_num, hi', hs1, L, hL'.out, hg1⟩
              case measure => simp [intOf]; omega
          · obtain rfl : j = m := by omega
            have hn' : k + j = n := by omega
            rw [hn'] at hL
            have hi2 : i = (cmpTo eq xs n).length := by have := hi.out; rwa [hn'] at this
            have hL2 : CmpCells eq xs xs.length L := by rw [hl'.out]; exact hL
            have hdone := hL2.done
            have hLl : L.length = n := by rw [hL.1, hl'.out]
            rw [hl'.out, ← hi2, show i + (n - i) = n by have := cmpTo_le eq xs n; omega] at hdone
            have hd' := Lib.hid hdone
            have hi2' := Lib.hid hi2
            have hLl' := Lib.hid hLl
            have hin : i ≤ n := by have := cmpTo_le eq xs n; omega
            clear hL hL2 hdone hi2 hLl hn' hi
            obtain ⟨i0, hinf, hz0, hz1, hz2⟩ := info_parts infoInt
            have hinf' := Lib.hid hinf
            have hz0' := Lib.hid hz0
            clear hinf hz0 hz1 hz2
            have hcut := fun u => run_cut_low (P := Try.prog) u 22 3 (some ⟨g, 0, none⟩) n c i .i64 Try.underlying22 sizeInt (i : Int) rfl (by omega)
            have hcut2 := fun u => run_cut_high (P := Try.prog) u 22 3 (some ⟨g, 0, none⟩) n c i .i64 Try.underlying22 sizeInt (i : Int) rfl (by omega)
            have hpos : Hid (0 < n - i → cutA (some ⟨g, 0, none⟩) c i = some ⟨g, i, none⟩) := fun hp => by have := cutA_lt (mx := c) (lo := i) (b := g) (o := 0) (by omega); simpa using this
            have hfit : Hid (i + (n - i) ≤ L.length) := by show _ ≤ _; rw [hLl'.out]; omega
            go_wp2_with (first
              | (with_reducible refine wpl_clear rfl (.tmp 61) 22 3 rfl Try.underlying22 hinf'.out hz0'.out g i (n - i) _ _ rfl hpos.out L 3 hgr.out hfit.out ?_))
            intro w3 hg3 hs3
            have hs4 := hs.trans (Save.of_sole hs3)
            clear hs hs3 hcut
            go_wp2
            go_ret
            exact ⟨by rw [← hi2'.out]; rfl, by rw [hg3.out, ← List.append_assoc, hd'.out, ← hi2'.out], hs4⟩
    · obtain rfl : k = n := by omega
      have hall1 : cmpTo eq xs k = xs := by have := hall.out; rwa [List.take_of_length_le (by rw [hl'.out]; omega)] at this
      have hall2 := Lib.hid hall1
      clear hall1 hall
      go_wp2
      go_ret
      rw [hall2.out]
      refine ⟨by rw [hl'.out]; rfl, ?_, hs⟩
      rw [hl'.out]
      simpa using hgr.out

set_option maxHeartbeats 2000000 in
theorem lcompactP_calls (w : World) (g n c : Nat) (xs : List Int) (B : Nat) (eq : Int → Int → Bool) (hl : xs.length = n) (hc : n ≤ c) (hm : c ≤ 9223372036854775807)
    (hg : w.heap[g]? = some (.cells (xs.map (Value.int .i64)).toArray 3 (0, 0)))
    (hcall : ∀ (u : World) (x y : Int), Save g w u → x ∈ xs → y ∈ xs → Calls Try.prog 27 #[.int .i64 x, .int .i64 y, .pointer (some ⟨B, 0, none⟩)] u fun e u' => e = .returned (.bool (eq x y)) ∧ Below u.heap.size u u') :
    Calls Try.prog 25 #[.slice (some ⟨g, 0, none⟩) n c, .func (.func 27) #[] #[.pointer (some ⟨B, 0, none⟩)]] w (CmpPost w g n c (cmpTo eq xs n)) := by
  have hnot : ∀ (x : Bool) (w : World), (Op.unary .not (.bool x)).run Try.prog w = .ok (.bool (!x)) w := fun _ _ => rfl
  have hg' := Lib.hid hg
  have hl' := Lib.hid hl
  have hcall' := Lib.hid hcall
  clear hg hl hcall
  by_cases hn2 : n < 2
  · have hall : cmpTo eq xs n = xs := by
      have e := hl'.out
      match n, hn2, e with
      | 0, _, e => simp [cmpTo, List.eq_nil_of_length_eq_zero e]
      | 1, _, e =>
        obtain ⟨x, rfl⟩ := List.length_eq_one_iff.1 e
        simp [cmpTo]
    have hall' := Lib.hid hall
    clear hall
    go_enter Try.func25, Try.ntmps25
    go_wp2
    go_ret
    rw [hall'.out]
    refine ⟨by rw [hl'.out]; rfl, ?_, Save.refl _ _⟩
    rw [hl'.out]
    simpa using hg'.out
  have tn : decide ((n : Int) < 2) = false := by simp; omega
  go_enter Try.func25, Try.ntmps25
  go_wp2
  go_loopw [5] (fun vk wr => ∃ k : Nat, 1 ≤ k ∧ k ≤ n ∧ vk = .int .i64 (k : Int) ∧ Save g w wr ∧ Hid (wr.heap[g]? = some (.cells (xs.map (Value.int .i64)).toArray 3 (0, 0))) ∧ Hid (cmpTo eq xs k = xs.take k)) (fun vk _ => n - (intOf vk).toNat)
  case atStart => exact ⟨1, Nat.le_refl _, by omega, rfl, Save.refl _ _, hg', first_one hl'.out (by omega)⟩
  case round =>
    obtain ⟨k, hk1, hk, rfl, hs, hgr, hall⟩ := hrel
    by_cases hlt : k < n
    · have hkl := Lib.hid (show k < xs.length by rw [hl'.out]; exact hlt)
      have hc1 : wr.cell? ⟨g, k, none⟩ = some (.int .i64 (xs.getD k 0)) := blk_cell hgr.out (getD_map_int .i64 xs k hkl.out)
      have hc2 : wr.cell? ⟨g, k - 1, none⟩ = some (.int .i64 (xs.getD (k - 1) 0)) := blk_cell hgr.out (getD_map_int .i64 xs (k - 1) (by have := hkl.out; omega))
      have hx1 := Lib.hid (getD_mem (xs := xs) (k := k) hkl.out)
      have hx2 := Lib.hid (getD_mem (xs := xs) (k := k - 1) (by have := hkl.out; omega))
      generalize hy1 : xs.getD k 0 = y1 at hc1 hx1
      generalize hy2 : xs.getD (k - 1) 0 = y2 at hc2 hx2
      have hy1' := Lib.hid hy1
      have hy2' := Lib.hid hy2
      clear hy1 hy2
      have q1 : (0 : Int) ≤ (k : Int) := by omega
      have q2 : (k : Int) < (n : Int) := by omega
      have q3 : (0 : Int) ≤ (k : Int) - 1 := by omega
      have q4 : (k : Int) - 1 < (n : Int) := by omega
      have q5 : ((k : Int) - 1).toNat = k - 1 := by omega
      have q7 : (1 : Int) ≤ (k : Int) := by omega
      have q8 : 1 ≤ k := hk1
      have q6 : IntKind.i64.wrap ((k : Int) - 1) = (k : Int) - 1 := IntWalk.i64_in _ (by omega)
      go_wp2
      go_still_tail 10, (by kernel_rfl)
      clear q6
      go_wp2_with fail
      refine (hcall'.out wr.drew y1 y2 ⟨hs.os, hs.tape, hs.output, hs.size, hs.block⟩ hx1.out hx2.out).mono ?_
      rintro e w1 ⟨rfl, hb0⟩
      have hb1 : Below wr.heap.size wr w1 := ⟨hb0.os, hb0.tape, hb0.output, hb0.size, hb0.block⟩
      have hs1 := hs.step hb1
      have hg1 := Lib.hid (Save.blk hb1 hgr.out)
      clear hb0 hb1 hs hgr hc1 hc2 hx1 hx2
      cases he : eq y1 y2
      · have hall1 := Lib.hid (cmpTo_all hkl.out hall.out (.inr (by rw [hy1'.out, hy2'.out]; exact he)))
        clear he
        go_wp2
        go_roundw
        case rel => exact ⟨k + 1, by omega, by omega, by go_num, hs1, hg1, hall1⟩
        case measure => simp [intOf]; omega
      · -- the first pair of equals: what follows is moved forward
        have hst := Lib.hid (CmpCells.start hkl.out (by omega) hall.out (by rw [hy1'.out, hy2'.out, he]; simp; omega))
        have hlen : Hid ((cmpTo eq xs (k + 1)).length = k) := by
          show _ = _
          rw [cmpTo_skip (by rw [hy1'.out, hy2'.out, he]; simp; omega), hall.out, List.length_take]
          have := hkl.out
          omega
        obtain ⟨m, hm1⟩ : ∃ m, n = k + m := ⟨n - k, by omega⟩
        have hm2 : k + m ≤ n := by omega
        have hm3 : n ≤ k + m := by omega
        have hcut := fun u => run_cut_low (P := Try.prog) u 22 3 (some ⟨g, 0, none⟩) n c k .i64 Try.underlying22 sizeInt (k : Int) rfl (by omega)
        rw [cutA_lt (by omega), show n - k = m by omega, Nat.zero_add] at hcut
        clear he hm1 q1 q2 q3 q4 q5 q7 hall hy1' hy2'
        go_wp2
        go_loopw [5, 7] (fun vk vj wr => ∃ i j : Nat, 1 ≤ j ∧ j ≤ m ∧ i < k + j ∧ vk = .int .i64 (i : Int) ∧ vj = .int .i64 (j : Int) ∧ Hid (i = (cmpTo eq xs (k + j)).length) ∧ Save g w wr ∧ ∃ L : List Value, CmpCells eq xs (k + j) L ∧ Hid (wr.heap[g]? = some (.cells L.toArray 3 (0, 0)))) (fun _ vj _ => m - (intOf vj).toNat)
        case atStart => exact ⟨k, 1, Nat.le_refl _, by omega, by omega, rfl, rfl, hlen.out.symm, hs1, _, hst.out, hg1⟩
        case round =>
          clear hst hlen hs1 hg1 hcut
          obtain ⟨i, j, hj1, hj, hij, rfl, rfl, hi, hs, L, hL, hgr⟩ := hrel
          by_cases hlt2 : j < m
          · have hjl := Lib.hid (show k + j < xs.length by rw [hl'.out]; omega)
            have hc1 : wr.cell? ⟨g, k + j, none⟩ = some (.int .i64 (xs.getD (k + j) 0)) := blk_cell hgr.out (hL.get hjl.out (by omega))
            have hc2 : wr.cell? ⟨g, k + (j - 1), none⟩ = some (.int .i64 (xs.getD (k + j - 1) 0)) := by
              rw [show k + (j - 1) = k + j - 1 by omega]
              exact blk_cell hgr.out (hL.get (by have := hjl.out; omega) (by omega))
            have hx1 := Lib.hid (getD_mem (xs := xs) (k := k + j) hjl.out)
            have hx2 := Lib.hid (getD_mem (xs := xs) (k := k + j - 1) (by have := hjl.out; omega))
            generalize hy1 : xs.getD (k + j) 0 = y3 at hc1 hx1
            generalize hy2 : xs.getD (k + j - 1) 0 = y4 at hc2 hx2
            have hy1' := Lib.hid hy1
            have hy2' := Lib.hid hy2
            clear hy1 hy2
            have q1 : (0 : Int) ≤ (j : Int) := by omega
            have q2 : (j : Int) < (m : Int) := by omega
            have q3 : (0 : Int) ≤ (j : Int) - 1 := by omega
            have q4 : (j : Int) - 1 < (m : Int) := by omega
            have q5 : ((j : Int) - 1).toNat = j - 1 := by omega
            have q7 : (1 : Int) ≤ (j : Int) := by omega
            have q6 : IntKind.i64.wrap ((j : Int) - 1) = (j : Int) - 1 := IntWalk.i64_in _ (by omega)
            go_wp2
            go_still_tail 10, (by kernel_rfl)
            clear q6
            go_wp2_with fail
            refine (hcall'.out wr.drew y3 y4 ⟨hs.os, hs.tape, hs.output, hs.size, hs.block⟩ hx1.out hx2.out).mono ?_
            rintro e w2 ⟨rfl, hb0⟩
            have hb1 : Below wr.heap.size wr w2 := ⟨hb0.os, hb0.tape, hb0.output, hb0.size, hb0.block⟩
            have hs1 := hs.step hb1
            have hg1 := Lib.hid (Save.blk hb1 hgr.out)
            clear hb0 hb1 hs hgr hc1 hc2 hx1 hx2
            have hil : i < L.length := by rw [hL.1, hl'.out]; omega
            have hc1 : w2.cell? ⟨g, k + j, none⟩ = some (.int .i64 y3) := by rw [← hy1'.out]; exact blk_cell hg1.out (hL.get hjl.out (by omega))
            obtain ⟨u, hci⟩ : ∃ u, w2.cell? ⟨g, i, none⟩ = some u := ⟨L[i], blk_cell hg1.out (by simp [hil])⟩
            have hfi : w2.frozen? ⟨g, i, none⟩ = false := blk_free hg1.out
            cases he : eq y3 y4
            · have hke : k + j = 0 ∨ eq (xs.getD (k + j) 0) (xs.getD (k + j - 1) 0) = false := .inr (by rw [hy1'.out, hy2'.out]; exact he)
              have hL' := Lib.hid (hL.keep (by omega) hjl.out hke)
              have hi' : Hid (i + 1 = (cmpTo eq xs (k + (j + 1))).length) := by
                show _ = _
                rw [← Nat.add_assoc, cmpTo_keep hke, List.length_append, ← hi.out]; rfl
              have hgn := Lib.hid (blk_set (o := i) (v := .int .i64 y3) hg1.out)
              have hsn := hs1.trans (Save.of_sole (Sole.set g i w2 (.int .i64 y3)))
              clear he hke hL hil hs1 q3 q4 q5 q7
              go_wp2
              go_roundw
              case rel => exact ⟨i + 1, j + 1, by omega, by omega, by omega, by go_num, by go_num, hi', hsn, _, by have := hL'.out; rw [← hi.out, hy1'.out] at this; exact this, hgn⟩
              case measure => simp [intOf]; omega
            · have hke : ¬ (k + j = 0 ∨ eq (xs.getD (k + j) 0) (xs.getD (k + j - 1) 0) = false) := by rw [hy1'.out, hy2'.out, he]; simp; omega
              have hL' := Lib.hid (hL.skip (by omega) hke)
              have hi' : Hid (i = (cmpTo eq xs (k + (j + 1))).length) := by
                show _ = _
                rw [← Nat.add_assoc, cmpTo_skip hke]; exact hi.out
              clear he hke hL hil hc1 hci hfi q3 q4 q5 q7
              go_wp2
              go_roundw
              case rel => exact ⟨i, j + 1, by omega, by omega, by omega, by go_num, by go_num, hi', hs1, L, hL'.out, hg1⟩
              case measure => simp [intOf]; omega
          · obtain rfl : j = m := by omega
            have hn' : k + j = n := by omega
            rw [hn'] at hL
            have hi2 : i = (cmpTo eq xs n).length := by have := hi.out; rwa [hn'] at this
            have hL2 : CmpCells eq xs xs.length L := by rw [hl'.out]; exact hL
            have hdone := hL2.done
            have hLl : L.length = n := by rw [hL.1, hl'.out]
            rw [hl'.out, ← hi2, show i + (n - i) = n by have := cmpTo_le eq xs n; omega] at hdone
            have hd' := Lib.hid hdone
            have hi2' := Lib.hid hi2
            have hLl' := Lib.hid hLl
            have hin : i ≤ n := by have := cmpTo_le eq xs n; omega
            clear hL hL2 hdone hi2 hLl hn' hi
            obtain ⟨i0, hinf, hz0, hz1, hz2⟩ := info_parts infoInt
            have hinf' := Lib.hid hinf
            have hz0' := Lib.hid hz0
            clear hinf hz0 hz1 hz2
            have hcut := fun u => run_cut_low (P := Try.prog) u 22 3 (some ⟨g, 0, none⟩) n c i .i64 Try.underlying22 sizeInt (i : Int) rfl (by omega)
            have hcut2 := fun u => run_cut_high (P := Try.prog) u 22 3 (some ⟨g, 0, none⟩) n c i .i64 Try.underlying22 sizeInt (i : Int) rfl (by omega)
            have hpos : Hid (0 < n - i → cutA (some ⟨g, 0, none⟩) c i = some ⟨g, i, none⟩) := fun hp => by have := cutA_lt (mx := c) (lo := i) (b := g) (o := 0) (by omega); simpa using this
            have hfit : Hid (i + (n - i) ≤ L.length) := by show _ ≤ _; rw [hLl'.out]; omega
            go_wp2_with (first
              | (with_reducible refine wpl_clear rfl (.tmp 61) 22 3 rfl Try.underlying22 hinf'.out hz0'.out g i (n - i) _ _ rfl hpos.out L 3 hgr.out hfit.out ?_))
            intro w3 hg3 hs3
            have hs4 := hs.trans (Save.of_sole hs3)
            clear hs hs3 hcut
            go_wp2
            go_ret
            exact ⟨by rw [← hi2'.out]; rfl, by rw [hg3.out, ← List.append_assoc, hd'.out, ← hi2'.out], hs4⟩
    · obtain rfl : k = n := by omega
      have hall1 : cmpTo eq xs k = xs := by have := hall.out; rwa [List.take_of_length_le (by rw [hl'.out]; omega)] at this
      have hall2 := Lib.hid hall1
      clear hall1 hall
      go_wp2
      go_ret
      rw [hall2.out]
      refine ⟨by rw [hl'.out]; rfl, ?_, hs⟩
      rw [hl'.out]
      simpa using hgr.out

end Go.Proofs.Ytgmnonijhgipbaa

/- impl.CompactPairs, walked; pairs that are read. -/
import Derived.Test.YtgmnonijhgipbaaCompact
import Derived.Test.YtgmnonijhgipbaaCmpMath
namespace Go.Proofs.Ytgmnonijhgipbaa
open Go.RowKit
set_option linter.unusedVariables false

/-- A slice of pairs that is read. -/
def RdP (w : World) (a : Option Addr) (n c : Nat) (ps : List (Int × Int)) : Prop :=
  ps.length = n ∧ n ≤ c ∧ c ≤ 9223372036854775807 ∧ ∀ (i : Nat) p, ps[i]? = some p → ∃ b off, a = some ⟨b, off, none⟩ ∧ b < w.heap.size ∧
    w.cell? ⟨b, off + i * 2, none⟩ = some (.int .i64 p.1) ∧ w.cell? ⟨b, off + i * 2 + 1, none⟩ = some (.int .i64 p.2)
theorem RdP.keep {w w' : World} {a : Option Addr} {n c : Nat} {ps : List (Int × Int)} (h : RdP w a n c ps) (hs : w.heap.size ≤ w'.heap.size) (hk : ∀ ad, a = some ad → ad.block < w.heap.size → w'.heap[ad.block]? = w.heap[ad.block]?) : RdP w' a n c ps := by
  obtain ⟨h1, h2, h3, h4⟩ := h
  refine ⟨h1, h2, h3, fun i p hp => ?_⟩
  obtain ⟨b, off, e, hlt, c0, c1⟩ := h4 i p hp
  have k : ∀ o, w'.cell? ⟨b, o, none⟩ = w.cell? ⟨b, o, none⟩ := fun o => World.cell?_of_block (w := w) (hk ⟨b, off, none⟩ e hlt)
  exact ⟨b, off, e, Nat.lt_of_lt_of_le hlt hs, by rw [k]; exact c0, by rw [k]; exact c1⟩
theorem RdP.below {w w' : World} {a : Option Addr} {n c : Nat} {ps : List (Int × Int)} {B : Nat} (h : RdP w a n c ps) (hb : Below B w w') (hB : w.heap.size ≤ B) : RdP w' a n c ps :=
  h.keep hb.size fun ad _ hlt => hb.block ad.block (by omega)
theorem RdP.save {R : Nat} {w w' : World} {a : Option Addr} {n c : Nat} {ps : List (Int × Int)} (h : RdP w a n c ps) (hs : Save R w w') (hR : ∀ ad, a = some ad → ad.block ≠ R) : RdP w' a n c ps :=
  h.keep hs.size fun ad e hlt => hs.block ad.block hlt (hR ad e)
theorem RdP.nil (w : World) : RdP w none 0 0 [] := ⟨rfl, Nat.le_refl _, by omega, fun i p h => by simp at h⟩

/-- Two numbers that are a pair of a list. -/
def eqP (ps : List (Int × Int)) (x y : Int) : Bool := ps.any fun p => p.1 == x && p.2 == y
theorem eqP_snoc (ps : List (Int × Int)) (p : Int × Int) (x y : Int) : eqP (ps ++ [p]) x y = (eqP ps x y || (p.1 == x && p.2 == y)) := by simp [eqP]
theorem eqP_mem {ps : List (Int × Int)} {p : Int × Int} (h : p ∈ ps) {x y : Int} (h1 : (p.1 == x) = true) (h2 : (p.2 == y) = true) : eqP ps x y = true := by
  unfold eqP
  rw [List.any_eq_true]
  exact ⟨p, h, by rw [h1, h2]; rfl⟩

set_option maxHeartbeats 400000 in
theorem pairs_calls (w : World) (B : Nat) (pa : Option Addr) (pn pc : Nat) (ps : List (Int × Int)) (x y : Int) (hB : w.cell? ⟨B, 0, none⟩ = some (.slice pa pn pc)) (hp : RdP w pa pn pc ps) :
    Calls Try.prog 27 #[.int .i64 x, .int .i64 y, .pointer (some ⟨B, 0, none⟩)] w fun e w' => e = .returned (.bool (eqP ps x y)) ∧ Below w.heap.size w w' := by
  have hp' := Lib.hid hp
  have hl := Lib.hid hp.1
  have hle := hp.2.1
  have hc := hp.2.2.1
  clear hp
  go_enter Try.func27, Try.ntmps27
  go_wp2
  go_loopw [10] (fun i wr => ∃ k : Nat, k ≤ pn ∧ i = .int .i64 (k : Int) ∧ Hid (Below w.heap.size w wr) ∧ Hid (eqP (ps.take k) x y = false)) (fun i _ => pn - (intOf i).toNat)
  case atStart => exact ⟨0, Nat.zero_le _, rfl, Below.refl _ _, rfl⟩
  case round =>
    obtain ⟨k, hk, rfl, hA, hN⟩ := hrel
    clear hB
    by_cases hlt : k < pn
    · obtain ⟨p, hpk⟩ : ∃ p, ps[k]? = some p := ⟨_, List.getElem?_eq_getElem (by rw [hl.out]; exact hlt)⟩
      have hx := (hp'.out.below hA.out (Nat.le_refl _)).2.2.2 k p hpk
      have hmem := Lib.hid (List.mem_of_getElem? hpk)
      have htk : Hid (ps.take (k + 1) = ps.take k ++ [p]) := by show _ = _; rw [List.take_add_one, hpk]; rfl
      clear hpk
      obtain ⟨b, off, rfl, hb1, d0, d1⟩ := hx
      obtain ⟨p0, p1⟩ := p
      simp only at d0 d1
      have hA2 : Hid (Below w.heap.size w (wr.alloc (.cells #[.int .i64 p0, .int .i64 p1] 3))) := hA.out.alloc hA.out.size _
      have hA3 : Hid (Below w.heap.size w (wr.alloc (.cells #[.int .i64 p0, .int .i64 p1] 37))) := hA.out.alloc hA.out.size _
      have hnx : Hid ((p0 == x) = false ∨ (p1 == y) = false → eqP (ps.take (k + 1)) x y = false) := by
        intro h
        rw [htk.out, eqP_snoc, hN.out]
        rcases h with h | h <;> simp [h]
      by_cases g1 : p0 = x
      · have t1 : (p0 == x) = true := by simpa using g1
        clear g1
        by_cases g2 : p1 = y
        · have t2 : (p1 == y) = true := by simpa using g2
          clear g2
          have hyes := Lib.hid (eqP_mem hmem.out t1 t2)
          go_wp2
          go_ret
          exact ⟨by rw [hyes.out]; rfl, by first | exact hA2.out | exact hA3.out⟩
        · have t2 : (p1 == y) = false := by simpa using g2
          clear g2
          have hN2 := Lib.hid (hnx.out (.inr t2))
          clear hN
          go_wp2
          go_roundw
          case rel => exact ⟨k + 1, hlt, by go_num, by first | exact hA2 | exact hA3, hN2⟩
          case measure => simp [intOf]; omega
      · have t1 : (p0 == x) = false := by simpa using g1
        clear g1
        have hN2 := Lib.hid (hnx.out (.inl t1))
        clear hN
        go_wp2
        go_roundw
        case rel => exact ⟨k + 1, hlt, by go_num, by first | exact hA2 | exact hA3, hN2⟩
        case measure => simp [intOf]; omega
    · obtain rfl : k = pn := by omega
      have q : ¬ ((k : Int) < (k : Int)) := by omega
      have e : ps.take k = ps := List.take_of_length_le (by rw [hl.out]; exact Nat.le_refl _)
      rw [e] at hN
      clear e
      go_wp2
      go_ret
      exact ⟨by rw [hN.out]; rfl, hA.out⟩

theorem lcompactP_nil (w : World) (B : Nat) :
    Calls Try.prog 25 #[.slice none 0 0, .func (.func 27) #[] #[.pointer (some ⟨B, 0, none⟩)]] w fun e w' => e = .returned (.slice none 0 0) ∧ w = w' := by
  go_enter Try.func25, Try.ntmps25
  go_wp2
  go_ret
  exact ⟨rfl, rfl⟩

set_option maxHeartbeats 1000000 in
theorem cpairs_calls (w : World) (a : Option Addr) (n c : Nat) (xs : List Int) (pa : Option Addr) (pn pc : Nat) (ps : List (Int × Int)) (hx : Rd .i64 w a n c xs) (hp : RdP w pa pn pc ps) (hc : n * 8 ≤ 140737488351232)
    (hpl : ∀ ad, pa = some ad → ad.block < w.heap.size) :
    Calls Try.prog 12 #[.slice a n c, .slice pa pn pc] w (ListPost w (cmpTo (eqP ps) xs n)) := by
  have hmf : ∀ (fn : Fn) (first cap : Array Value) (w : World), (Instr.makeFunc fn first cap).run Try.prog w = .ok (.func fn first cap) w := fun _ _ _ _ => rfl
  have l := hx.le
  have hb0 : Below w.heap.size w (w.alloc (.cells #[.slice pa pn pc] 23)) := (Below.refl _ _).alloc (Nat.le_refl _) _
  have hx0 := Lib.hid (hx.below hb0 (Nat.le_refl _))
  have hlen := Lib.hid hx.len
  have hpl' := Lib.hid hpl
  have hp' := Lib.hid hp
  clear hpl hp
  have hle := cmpTo_le (eqP ps) xs n
  cases ha : a.isNone
  · have hne : a.isNone = true → 0 < 0 := fun e => by rw [ha] at e; cases e
    have hle' : (cmpTo (eqP ps) xs n).length ≤ n := hle
    clear ha hle
    go_enter Try.func12, Try.ntmps12
    go_wp2_with fail
    refine (spare_calls a n c 0 xs _ hx0.out hc (by omega) hne).mono ?_
    rintro e w1 ⟨rfl, hg, hb1⟩
    have hg1 : w1.heap[w.heap.size + 1]? = some (.cells (xs.map (Value.int .i64)).toArray 3 (0, 0)) := by simpa [spareCells] using hg
    have hB1 : w1.cell? ⟨w.heap.size, 0, none⟩ = some (.slice pa pn pc) := blk_cell (l := [.slice pa pn pc]) ((hb1.block w.heap.size (by simp)).trans (heap_alloc_new w _)) rfl
    have hbw := hb0.trans (hb1.mono hb0.size)
    have hsz := hb1.size
    simp only [World.size_alloc] at hsz
    have hg1' := Lib.hid hg1
    have hB1' := Lib.hid hB1
    clear hg hb1 hb0 hne hg1 hB1 hx0
    go_wp2_with fail
    have hcall : ∀ (u : World) (x y : Int), Save (w.heap.size + 1) w1 u → x ∈ xs → y ∈ xs → Calls Try.prog 27 #[.int .i64 x, .int .i64 y, .pointer (some ⟨w.heap.size, 0, none⟩)] u fun e u' => e = .returned (.bool (eqP ps x y)) ∧ Below u.heap.size u u' := by
      intro u x y hs hxm hym
      have hz := blk_lt hg1'.out
      have hcu : u.cell? ⟨w.heap.size, 0, none⟩ = some (.slice pa pn pc) := by rw [World.cell?_of_block (w := w1) (hs.block w.heap.size (by omega) (by omega))]; exact hB1'.out
      exact pairs_calls u w.heap.size pa pn pc ps x y hcu ((hp'.out.below hbw (Nat.le_refl _)).save hs (fun ad e => by have := hpl'.out ad e; omega))
    refine (lcompactP_calls w1 (w.heap.size + 1) n n xs w.heap.size (eqP ps) hlen.out (Nat.le_refl _) (by omega) hg1'.out hcall).mono ?_
    clear hcall
    rintro e w2 ⟨rfl, hg2, hs2⟩
    have hb2 := hbw.trans (hs2.below (B := w.heap.size) (by omega) (by omega))
    have hg2' := Lib.hid hg2
    clear hg2 hs2 hbw hB1' hg1'
    generalize hys : cmpTo (eqP ps) xs n = ys at hle' hg2'
    have hys' := Lib.hid hys
    clear hys
    have hall : Rd .i64 w2 (some ⟨w.heap.size + 1, 0, none⟩) n n (ys ++ List.replicate (n - ys.length) 0) :=
      Rd.blk hg2'.out (by simp; omega) (Nat.le_refl _) (by unfold maxLen; omega) fun i hi => by rw [Nat.zero_add]; exact getD_map_int .i64 _ i (by simp; omega)
    have hout : Hid (Rd .i64 w2 (some ⟨w.heap.size + 1, 0, none⟩) ys.length n ys) := by
      have := hall.cut (lo := 0) (hi := ys.length) (Nat.zero_le _) hle'
      rw [cutA_zero, List.take_left, List.drop_zero] at this
      exact this
    clear hall
    go_wp2
    go_ret
    rw [hys'.out]
    exact ⟨_, _, _, rfl, hout.out, hb2⟩
  · obtain rfl : a = none := by simpa using ha
    obtain ⟨rfl, rfl⟩ := hx.2.2.2.1 rfl
    obtain rfl : xs = [] := List.eq_nil_of_length_eq_zero hx.len
    clear hx hx0 hlen hle l
    go_enter Try.func12, Try.ntmps12
    go_wp2_with fail
    refine (spare_nil _).mono ?_
    rintro e w1 ⟨rfl, rfl⟩
    go_wp2_with fail
    refine (lcompactP_nil _ w.heap.size).mono ?_
    rintro e w2 ⟨rfl, rfl⟩
    go_wp2
    go_ret
    exact ⟨none, 0, 0, rfl, Rd.nil _ _, hb0⟩

end Go.Proofs.Ytgmnonijhgipbaa

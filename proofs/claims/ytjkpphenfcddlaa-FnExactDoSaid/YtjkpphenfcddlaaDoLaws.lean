/- The laws FnExactDo and FnExactDoRing, walked. -/
import Derived.Test.YtjkpphenfcddlaaSMove
import Derived.Test.YtjkpphenfcddlaaRound
import Derived.Test.YtjkpphenfcddlaaSame
import Derived.Test.YtjkpphenfcddlaaFind
import Derived.Deep.RegionHeld3
import Derived.IntWalk
namespace Go.Proofs.Ytjkpphenfcddlaa
open Go.RowKit
open Go.Proofs.Ytjkpphenfcddlaa.Rm
set_option linter.unusedVariables false

set_option maxHeartbeats 400000 in
theorem fnExactDo_walk (a0 : Option Addr) (n0 c0 : Nat) (x0 : List Int) (m1 : Nat) (w : World) (h0 : Rd .u16 w a0 n0 c0 x0) (f0 : ∀ x ∈ x0, (Lit.int .u16 x).wf = true) (s0 : c0 * 2 ≤ 140737488351232) (h1 : m1 ≤ 65535) :
    Calls Try.prog 3 #[.slice a0 n0 c0, .int .u16 (m1 : Int)] w fun e w' => e = .returned (.bool true) ∧ Below w.heap.size w w' := by
  have hnot : ∀ (x : Bool) (w : World), (Op.unary .not (.bool x)).run Try.prog w = .ok (.bool (!x)) w := fun _ _ => rfl
  have n0' : n0 ≤ 140737488351232 := by have := h0.le; omega
  go_enter Try.func3, Try.ntmps3
  go_wp2_with fail
  refine (fits_calls w a0 n0 c0 x0 m1 h0 f0 n0' h1).mono ?_
  rintro e w1 ⟨rfl, rfl⟩
  by_cases hno : fitsB x0 m1 = false
  · rw [hno]
    clear hno
    go_wp2
    go_ret
    exact ⟨rfl, Below.refl _ _⟩
  have hfit : fitsB x0 m1 = true := by simpa using hno
  clear hno
  rw [hfit]
  simp only [fitsB, Bool.and_eq_true, decide_eq_true_eq] at hfit
  obtain ⟨ht, hi⟩ := hfit
  have hi' := Lib.hid hi
  have ht' := Lib.hid ht
  have h0' := Lib.hid h0
  have f0' := Lib.hid f0
  clear hi ht h0 f0
  go_wp2_with fail
  refine (iDo_in w a0 n0 c0 x0 m1 h0'.out f0'.out n0' ht'.out hi'.out h1).mono ?_
  rintro e w1 ⟨a2, n2, c2, rfl, hr2, hb1⟩
  have hb1' := Lib.hid hb1
  have hr2' := Lib.hid hr2
  clear hb1 hr2
  go_wp2_with fail
  refine (smade_calls w1 a0 n0 c0 x0 (h0'.out.below hb1'.out (Nat.le_refl _)) f0'.out n0' ht'.out).mono ?_
  rintro e w2 ⟨a3, n3, c3, rfl, hr3, hb2⟩
  have hb2' := Lib.hid hb2
  have hr3' := Lib.hid hr3
  clear hb2 hr3
  go_wp2_with fail
  refine (hr3'.out.from ht'.out hi'.out).mono ?_
  rintro e w3 ⟨a4, n4, c4, rfl, hr4, hb3⟩
  have hr2'' := (hr2'.out.below hb2'.out (Nat.le_refl _)).below hb3 (Nat.le_refl _)
  have hb4 := Lib.hid (hb1'.out.trans ((hb2'.out.trans (hb3.mono hb2'.out.size)).mono hb1'.out.size))
  have hsm := same_calls a2 a4 n2 c2 n4 c4 _ _ w3 hr2'' hr4
  clear hr2'' hr4 hb3 hr3' hb2' hr2' hb1'
  go_wp2_with fail
  refine hsm.mono ?_
  rintro e w4 ⟨rfl, hb5⟩
  clear hsm
  go_wp2
  go_ret
  exact ⟨by simp, hb4.out.trans (hb5.mono hb4.out.size)⟩

/-- The ring of an element begins with it. -/
theorem from_mk_head (xs : List Int) {i : Nat} (hi : i < tot xs) : (nats (from' (mk xs) i)).getD 0 0 = (i : Int) := by
  obtain ⟨nx, pv, h1, h⟩ := rep_mk xs
  have r := h.from_ring hi
  rw [nats_getD _ _ r.pos]
  have := r.path.get 0 r.pos
  rw [List.getElem?_eq_getElem r.pos] at this
  simp only [Option.some.injEq] at this
  rw [this]; rfl
theorem from_mk_mem (xs : List Int) {i : Nat} (hi : i < tot xs) : (i : Int) ∈ nats (from' (mk xs) i) := by
  obtain ⟨nx, pv, h1, h⟩ := rep_mk xs
  exact List.mem_map.2 ⟨i, (h.from_ring hi).mem, rfl⟩

set_option maxHeartbeats 200000 in
theorem fnExactDoRing_walk (a0 : Option Addr) (n0 c0 : Nat) (x0 : List Int) (m1 : Nat) (w : World) (h0 : Rd .u16 w a0 n0 c0 x0) (f0 : ∀ x ∈ x0, (Lit.int .u16 x).wf = true) (s0 : c0 * 2 ≤ 140737488351232) (h1 : m1 ≤ 65535) :
    Calls Try.prog 4 #[.slice a0 n0 c0, .int .u16 (m1 : Int)] w fun e w' => e = .returned (.bool true) ∧ Below w.heap.size w w' := by
  have hnot : ∀ (x : Bool) (w : World), (Op.unary .not (.bool x)).run Try.prog w = .ok (.bool (!x)) w := fun _ _ => rfl
  have n0' : n0 ≤ 140737488351232 := by have := h0.le; omega
  go_enter Try.func4, Try.ntmps4
  go_wp2_with fail
  refine (fits_calls w a0 n0 c0 x0 m1 h0 f0 n0' h1).mono ?_
  rintro e w1 ⟨rfl, rfl⟩
  by_cases hno : fitsB x0 m1 = false
  · rw [hno]
    clear hno
    go_wp2
    go_ret
    exact ⟨rfl, Below.refl _ _⟩
  have hfit : fitsB x0 m1 = true := by simpa using hno
  clear hno
  rw [hfit]
  simp only [fitsB, Bool.and_eq_true, decide_eq_true_eq] at hfit
  obtain ⟨ht, hi⟩ := hfit
  have hi' := Lib.hid hi
  have ht' := Lib.hid ht
  have h0' := Lib.hid h0
  have f0' := Lib.hid f0
  clear hi ht h0 f0
  go_wp2_with fail
  refine (iDo_in w a0 n0 c0 x0 m1 h0'.out f0'.out n0' ht'.out hi'.out h1).mono ?_
  rintro e w1 ⟨a2, n2, c2, rfl, hr2, hb1⟩
  have hb1' := Lib.hid hb1
  have hr2' := Lib.hid hr2
  clear hb1 hr2
  go_wp2_with fail
  refine (smade_calls w1 a0 n0 c0 x0 (h0'.out.below hb1'.out (Nat.le_refl _)) f0'.out n0' ht'.out).mono ?_
  rintro e w2 ⟨a3, n3, c3, rfl, hr3, hb2⟩
  have hr4' := Lib.hid (hr2'.out.below hb2 (Nat.le_refl _))
  have hb2' := Lib.hid (hb1'.out.trans (hb2.mono hb1'.out.size))
  have hr3' := Lib.hid hr3
  clear hb2 hr3 hr2' hb1'
  have hpos : 0 < n2 := by rw [← hr4'.out.len, nats_length]; exact from_mk_pos x0 hi'.out
  have hle := hr4'.out.le
  obtain ⟨b, o, rfl, _, hcell⟩ := hr4'.out.at hpos
  have hc := hcell 0 hpos
  rw [from_mk_head x0 hi'.out] at hc
  clear hcell
  have hS0 : w2.drew.cell? ⟨b, o, none⟩ = some (.int .i64 (m1 : Int)) ∧ Below w2.heap.size w2 w2.drew := ⟨hc, below_drewN (Below.refl _ _) 1⟩
  have hbl := (show b < w2.heap.size from World.block_lt_of_cell? w2 _ hc)
  have hgo : Hid (∀ u u', Below w2.heap.size w2 u → Below u.heap.size u u' → u'.cell? ⟨b, o, none⟩ = some (.int .i64 (m1 : Int)) ∧ Below w2.heap.size w2 u') := by
    intro u u' h1 h2
    have h3 := h1.trans (h2.mono h1.size)
    exact ⟨by rw [h3.cell (p := ⟨b, o, none⟩) hbl]; exact hc, h3⟩
  have hfr : Hid (∀ u, u.cell? ⟨b, o, none⟩ = some (.int .i64 (m1 : Int)) ∧ Below w2.heap.size w2 u → Calls Try.prog 15 #[.slice a3 n3 c3, .int .i64 (m1 : Int)] u fun e u' =>
      ∃ a n c, e = .returned (.slice a n c) ∧ Rd .i64 u' a n c (nats (from' (mk x0) m1)) ∧ u'.cell? ⟨b, o, none⟩ = some (.int .i64 (m1 : Int)) ∧ Below w2.heap.size w2 u') := by
    intro u hu
    refine ((hr3'.out.below hu.2 (Nat.le_refl _)).from ht'.out hi'.out).mono ?_
    rintro e u' ⟨a, n, c, rfl, hr, hb⟩
    exact ⟨a, n, c, rfl, hr, hgo.out u u' hu.2 hb⟩
  have hpl : Hid (∀ u a n c, Rd .i64 u a n c (nats (from' (mk x0) m1)) → Calls Try.prog 16 #[.slice a n c, .int .i64 (m1 : Int)] u fun e u' => e = .returned (.int .i64 0) ∧ u = u') := by
    intro u a n c hr
    have e0 : placeI (nats (from' (mk x0) m1)) (m1 : Int) = 0 := by
      have hm := from_mk_mem x0 hi'.out
      have hh := from_mk_head x0 hi'.out
      unfold placeI
      rw [if_pos hm]
      have := idxOf_of (xs := nats (from' (mk x0) m1)) (x := (m1 : Int)) (k := 0) (by rw [nats_length]; exact from_mk_pos x0 hi'.out) (by simp) hh
      rw [this]; rfl
    have := place_calls a n c _ (m1 : Int) u hr
    rwa [e0] at this
  have hsm : Hid (∀ u a n c, (u.cell? ⟨b, o, none⟩ = some (.int .i64 (m1 : Int)) ∧ Below w2.heap.size w2 u) → Rd .i64 u a n c (nats (from' (mk x0) m1)) → Calls Try.prog 12 #[.slice (some ⟨b, o, none⟩) n2 c2, .slice a n c] u fun e u' => e = .returned (.bool true) ∧ u'.cell? ⟨b, o, none⟩ = some (.int .i64 (m1 : Int)) ∧ Below w2.heap.size w2 u') := by
    intro u a n c hu hr
    refine (same_calls _ _ _ _ _ _ _ _ u (hr4'.out.below hu.2 (Nat.le_refl _)) hr).mono ?_
    rintro e u' ⟨rfl, hb⟩
    exact ⟨by simp, hgo.out u u' hu.2 hb⟩
  have hwr : IntKind.i64.wrap (m1 : Int) = (m1 : Int) := IntWalk.i64_in _ (by omega)
  have t0 : decide (0 < n2) = true := by simpa using hpos
  have t1 : decide ((0 : Int) < (n2 : Int)) = true := by simpa using hpos
  go_wp2
  go_region_held3 (fun u => u.cell? ⟨b, o, none⟩ = some (.int .i64 (m1 : Int)) ∧ Below w2.heap.size w2 u) (first | assumption | exact ⟨by assumption, by assumption⟩)
    (first
      | (go_at_call 15; ((with_reducible refine (hfr.out _ (by assumption)).mono ?_); rintro e w5 ⟨a5, n5, c5, rfl, hr5, hS5⟩))
      | (go_at_call 16; ((with_reducible refine (hpl.out _ _ _ _ (by assumption)).mono ?_); rintro e w6 ⟨rfl, rfl⟩))
      | (go_at_call 12; ((with_reducible refine (hsm.out _ _ _ _ (by assumption) (by assumption)).mono ?_); rintro e w7 ⟨rfl, hS7⟩)))
  go_wp2
  go_ret
  exact ⟨rfl, hb2'.out.trans (hS7.2.mono hb2'.out.size)⟩

end Go.Proofs.Ytjkpphenfcddlaa

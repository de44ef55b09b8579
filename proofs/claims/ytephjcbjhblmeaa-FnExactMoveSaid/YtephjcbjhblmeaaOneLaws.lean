/- The laws FnExactNext, FnExactPrev, FnExactMove, FnExactLen, walked. Written by genone.py. -/
import Derived.Test.YtephjcbjhblmeaaSMove
namespace Go.Proofs.Ytephjcbjhblmeaa
open Go.RowKit
open Go.Proofs.Ytephjcbjhblmeaa.Rm
set_option linter.unusedVariables false

set_option maxHeartbeats 400000 in
theorem fnExactNext_walk (a0 : Option Addr) (n0 c0 : Nat) (x0 : List Int) (m1 : Nat) (w : World) (h0 : Rd .u16 w a0 n0 c0 x0) (f0 : ∀ x ∈ x0, (Lit.int .u16 x).wf = true) (s0 : c0 * 2 ≤ 140737488351232) (h1 : m1 ≤ 65535) :
    Calls Try.prog 7 #[.slice a0 n0 c0, .int .u16 (m1 : Int)] w fun e w' => e = .returned (.bool true) ∧ Below w.heap.size w w' := by
  have hnot : ∀ (x : Bool) (w : World), (Op.unary .not (.bool x)).run Try.prog w = .ok (.bool (!x)) w := fun _ _ => rfl
  go_enter Try.func7, Try.ntmps7
  go_wp2_with fail
  refine (fits_calls w a0 n0 c0 x0 m1 h0 f0 s0 h1).mono ?_
  rintro e w1 ⟨rfl, rfl⟩
  by_cases hno : fitsB x0 m1 = false
  · rw [hno]
    clear hno
    go_wp2
    go_ret
    exact ⟨rfl, Below.refl _ _⟩
  have hfit : fitsB x0 m1 = true := by simpa using hno
  clear hno
  rw [hfit]
  simp only [fitsB, Bool.and_eq_true, decide_eq_true_eq] at hfit
  obtain ⟨ht, hi⟩ := hfit
  have hi' := Lib.hid hi
  have ht' := Lib.hid ht
  have h0' := Lib.hid h0
  have f0' := Lib.hid f0
  clear hi ht h0 f0
  go_wp2_with fail
  refine (iNext_in w a0 n0 c0 x0 m1 h0'.out f0'.out s0 ht'.out hi'.out h1).mono ?_
  rintro e w1 ⟨rfl, hb1⟩
  have hb1' := Lib.hid hb1
  clear hb1
  go_wp2_with fail
  refine (smade_calls w1 a0 n0 c0 x0 (h0'.out.below hb1'.out (Nat.le_refl _)) f0'.out s0 ht'.out).mono ?_
  rintro e w2 ⟨a3, n3, c3, rfl, hr3, hb2⟩
  have hb2' := Lib.hid (hb1'.out.trans (hb2.mono hb1'.out.size))
  have hr3' := Lib.hid hr3
  clear hb1' hb2 hr3
  go_wp2_with fail
  refine (hr3'.out.move ht'.out hi'.out 1 (by omega)).mono ?_
  rintro e w3 ⟨rfl, hb3⟩
  have hb4 := hb2'.out.trans (hb3.mono hb2'.out.size)
  clear hb3
  go_wp2
  go_ret
  exact ⟨by simp, hb4⟩

set_option maxHeartbeats 400000 in
theorem fnExactPrev_walk (a0 : Option Addr) (n0 c0 : Nat) (x0 : List Int) (m1 : Nat) (w : World) (h0 : Rd .u16 w a0 n0 c0 x0) (f0 : ∀ x ∈ x0, (Lit.int .u16 x).wf = true) (s0 : c0 * 2 ≤ 140737488351232) (h1 : m1 ≤ 65535) :
    Calls Try.prog 8 #[.slice a0 n0 c0, .int .u16 (m1 : Int)] w fun e w' => e = .returned (.bool true) ∧ Below w.heap.size w w' := by
  have hnot : ∀ (x : Bool) (w : World), (Op.unary .not (.bool x)).run Try.prog w = .ok (.bool (!x)) w := fun _ _ => rfl
  go_enter Try.func8, Try.ntmps8
  go_wp2_with fail
  refine (fits_calls w a0 n0 c0 x0 m1 h0 f0 s0 h1).mono ?_
  rintro e w1 ⟨rfl, rfl⟩
  by_cases hno : fitsB x0 m1 = false
  · rw [hno]
    clear hno
    go_wp2
    go_ret
    exact ⟨rfl, Below.refl _ _⟩
  have hfit : fitsB x0 m1 = true := by simpa using hno
  clear hno
  rw [hfit]
  simp only [fitsB, Bool.and_eq_true, decide_eq_true_eq] at hfit
  obtain ⟨ht, hi⟩ := hfit
  have hi' := Lib.hid hi
  have ht' := Lib.hid ht
  have h0' := Lib.hid h0
  have f0' := Lib.hid f0
  clear hi ht h0 f0
  go_wp2_with fail
  refine (iPrev_in w a0 n0 c0 x0 m1 h0'.out f0'.out s0 ht'.out hi'.out h1).mono ?_
  rintro e w1 ⟨rfl, hb1⟩
  have hb1' := Lib.hid hb1
  clear hb1
  go_wp2_with fail
  refine (smade_calls w1 a0 n0 c0 x0 (h0'.out.below hb1'.out (Nat.le_refl _)) f0'.out s0 ht'.out).mono ?_
  rintro e w2 ⟨a3, n3, c3, rfl, hr3, hb2⟩
  have hb2' := Lib.hid (hb1'.out.trans (hb2.mono hb1'.out.size))
  have hr3' := Lib.hid hr3
  clear hb1' hb2 hr3
  go_wp2_with fail
  refine (hr3'.out.move ht'.out hi'.out (-1) (by omega)).mono ?_
  rintro e w3 ⟨rfl, hb3⟩
  have hb4 := hb2'.out.trans (hb3.mono hb2'.out.size)
  clear hb3
  go_wp2
  go_ret
  exact ⟨by simp, hb4⟩

set_option maxHeartbeats 400000 in
theorem fnExactMove_walk (a0 : Option Addr) (n0 c0 : Nat) (x0 : List Int) (m1 : Nat) (i2 : Int) (w : World) (h0 : Rd .u16 w a0 n0 c0 x0) (f0 : ∀ x ∈ x0, (Lit.int .u16 x).wf = true) (s0 : c0 * 2 ≤ 140737488351232) (h1 : m1 ≤ 65535) (h2 : -9223372036854775808 ≤ i2 ∧ i2 ≤ 9223372036854775807) :
    Calls Try.prog 11 #[.slice a0 n0 c0, .int .u16 (m1 : Int), .int .i64 i2] w fun e w' => e = .returned (.bool true) ∧ Below w.heap.size w w' := by
  have hnot : ∀ (x : Bool) (w : World), (Op.unary .not (.bool x)).run Try.prog w = .ok (.bool (!x)) w := fun _ _ => rfl
  go_enter Try.func11, Try.ntmps11
  go_wp2_with fail
  refine (fits_calls w a0 n0 c0 x0 m1 h0 f0 s0 h1).mono ?_
  rintro e w1 ⟨rfl, rfl⟩
  by_cases hno : fitsB x0 m1 = false
  · rw [hno]
    clear hno
    go_wp2
    go_ret
    exact ⟨rfl, Below.refl _ _⟩
  have hfit : fitsB x0 m1 = true := by simpa using hno
  clear hno
  rw [hfit]
  simp only [fitsB, Bool.and_eq_true, decide_eq_true_eq] at hfit
  obtain ⟨ht, hi⟩ := hfit
  by_cases hbig : 1000000 < i2
  · go_wp2
    go_ret
    exact ⟨rfl, Below.refl _ _⟩
  by_cases hsml : i2 < -1000000
  · go_wp2
    go_ret
    exact ⟨rfl, Below.refl _ _⟩
  have hi' := Lib.hid hi
  have ht' := Lib.hid ht
  have h0' := Lib.hid h0
  have f0' := Lib.hid f0
  clear hi ht h0 f0
  go_wp2_with fail
  refine (iMove_in w a0 n0 c0 x0 m1 i2 h0'.out f0'.out s0 ht'.out hi'.out h1 h2).mono ?_
  rintro e w1 ⟨rfl, hb1⟩
  have hb1' := Lib.hid hb1
  clear hb1
  go_wp2_with fail
  refine (smade_calls w1 a0 n0 c0 x0 (h0'.out.below hb1'.out (Nat.le_refl _)) f0'.out s0 ht'.out).mono ?_
  rintro e w2 ⟨a3, n3, c3, rfl, hr3, hb2⟩
  have hb2' := Lib.hid (hb1'.out.trans (hb2.mono hb1'.out.size))
  have hr3' := Lib.hid hr3
  clear hb1' hb2 hr3
  go_wp2_with fail
  refine (hr3'.out.move ht'.out hi'.out i2 h2).mono ?_
  rintro e w3 ⟨rfl, hb3⟩
  have hb4 := hb2'.out.trans (hb3.mono hb2'.out.size)
  clear hb3
  go_wp2
  go_ret
  exact ⟨by simp, hb4⟩

set_option maxHeartbeats 400000 in
theorem fnExactLen_walk (a0 : Option Addr) (n0 c0 : Nat) (x0 : List Int) (m1 : Nat) (w : World) (h0 : Rd .u16 w a0 n0 c0 x0) (f0 : ∀ x ∈ x0, (Lit.int .u16 x).wf = true) (s0 : c0 * 2 ≤ 140737488351232) (h1 : m1 ≤ 65535) :
    Calls Try.prog 6 #[.slice a0 n0 c0, .int .u16 (m1 : Int)] w fun e w' => e = .returned (.bool true) ∧ Below w.heap.size w w' := by
  have hnot : ∀ (x : Bool) (w : World), (Op.unary .not (.bool x)).run Try.prog w = .ok (.bool (!x)) w := fun _ _ => rfl
  go_enter Try.func6, Try.ntmps6
  go_wp2_with fail
  refine (fits_calls w a0 n0 c0 x0 m1 h0 f0 s0 h1).mono ?_
  rintro e w1 ⟨rfl, rfl⟩
  by_cases hno : fitsB x0 m1 = false
  · rw [hno]
    clear hno
    go_wp2
    go_ret
    exact ⟨rfl, Below.refl _ _⟩
  have hfit : fitsB x0 m1 = true := by simpa using hno
  clear hno
  rw [hfit]
  simp only [fitsB, Bool.and_eq_true, decide_eq_true_eq] at hfit
  obtain ⟨ht, hi⟩ := hfit
  have hi' := Lib.hid hi
  have ht' := Lib.hid ht
  have h0' := Lib.hid h0
  have f0' := Lib.hid f0
  clear hi ht h0 f0
  go_wp2_with fail
  refine (iLen_in w a0 n0 c0 x0 m1 h0'.out f0'.out s0 ht'.out hi'.out h1).mono ?_
  rintro e w1 ⟨rfl, hb1⟩
  have hb1' := Lib.hid hb1
  clear hb1
  go_wp2_with fail
  refine (smade_calls w1 a0 n0 c0 x0 (h0'.out.below hb1'.out (Nat.le_refl _)) f0'.out s0 ht'.out).mono ?_
  rintro e w2 ⟨a3, n3, c3, rfl, hr3, hb2⟩
  have hb2' := Lib.hid (hb1'.out.trans (hb2.mono hb1'.out.size))
  have hr3' := Lib.hid hr3
  clear hb1' hb2 hr3
  go_wp2_with fail
  refine (hr3'.out.from ht'.out hi'.out).mono ?_
  rintro e w3 ⟨a4, n4, c4, rfl, hr4, hb3⟩
  have hb4 := hb2'.out.trans (hb3.mono hb2'.out.size)
  have e4 := hr4.len
  rw [nats_length] at e4
  subst e4
  clear hr4 hb3
  go_wp2
  go_ret
  exact ⟨by simp, hb4⟩

end Go.Proofs.Ytephjcbjhblmeaa

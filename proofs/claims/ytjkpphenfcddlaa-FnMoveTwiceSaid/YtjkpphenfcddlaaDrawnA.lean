/- The drawn laws FnNextPrev, FnMoveOne and FnMoveTwice, walked. Written by gendrawn.py. -/
import Derived.Test.YtjkpphenfcddlaaUse
namespace Go.Proofs.Ytjkpphenfcddlaa
open Go.RowKit
open Go.Proofs.Ytjkpphenfcddlaa.Rm
set_option linter.unusedVariables false

set_option maxHeartbeats 1000000 in
theorem fnNextPrev_walk (a0 : Option Addr) (n0 c0 : Nat) (x0 : List Int) (w : World) (h0 : Rd .u8 w a0 n0 c0 x0) (f0 : ∀ x ∈ x0, (Lit.int .u8 x).wf = true) (s0 : c0 * 1 ≤ 140737488351232) (d0 : ∀ ad, a0 = some ad → ad.block < w.heap.size) :
    Calls Try.prog 5 #[.slice a0 n0 c0] w fun e w' => e = .returned (.bool true) ∧ Below w.heap.size w w' := by
  have hnot : ∀ (x : Bool) (w : World), (Op.unary .not (.bool x)).run Try.prog w = .ok (.bool (!x)) w := fun _ _ => rfl
  have l := h0.le
  have hB := Lib.hid (bytes_of_wf f0)
  have hd0 := Lib.hid d0
  have h0' := Lib.hid h0
  clear f0 d0 h0
  go_enter Try.func5, Try.ntmps5
  go_wp2_with fail
  refine (large_calls a0 n0 c0 w (by omega)).mono ?_
  rintro e w' ⟨rfl, rfl⟩
  by_cases hbig : 1048576 < n0
  · have tb : decide (1048576 < n0) = true := by simpa using hbig
    go_wp2
    go_ret
    exact ⟨rfl, Below.refl _ _⟩
  have tb : decide (1048576 < n0) = false := by simpa using hbig
  clear hbig
  go_wp2_with fail
  refine (drawNext_calls w a0 n0 c0 x0 h0'.out hB.out hd0.out).mono ?_
  clear h0' hB hd0 tb
  rintro e w1 ⟨a1, n1, c1, xs, m, rfl, hz0, hm, hbw⟩
  have hz := Lib.hid hz0
  have hb0 := Lib.hid hbw
  have ht := hz0.t21
  clear hz0 hbw
  go_wp2_with fail
  refine (hz.out.fits m hm).mono ?_
  rintro e w' ⟨rfl, rfl⟩
  by_cases hi : m < tot xs
  case neg =>
    have tf : decide (m < tot xs) = false := by simpa using hi
    have ho := Lib.hid (show tot xs ≤ m by omega)
    rw [tf]
    clear hi tf
    go_wp2_with fail
    refine (hz.out.next_out m hm ho.out w1 (Below.refl _ _)).mono ?_
    rintro e w2 ⟨rfl, hb⟩
    go_wp2
    go_ret
    exact ⟨rfl, hb0.out.trans (hb.mono hb0.out.size)⟩
  have tf : decide (m < tot xs) = true := by simpa using hi
  rw [tf]
  have hi' := Lib.hid hi
  clear hi tf
  have hx := hz.out.next_in m hm hi'.out
  have hp := hz.out.prev_in m hm hi'.out
  have l1 := mv_mk_lt xs hi'.out 1
  have l2 := mv_mk_lt xs hi'.out (-1)
  have q1 := hz.out.prev_in (mv (mk xs) m 1) (by omega) l1
  have q2 := hz.out.next_in (mv (mk xs) m (-1)) (by omega) l2
  rw [mk_mv_mv xs hi'.out] at q1 q2
  rw [show (1 : Int) + -1 = 0 from rfl, mk_mv_zero xs hi'.out] at q1
  rw [show (-1 : Int) + 1 = 0 from rfl, mk_mv_zero xs hi'.out] at q2
  have hx' := Lib.hid hx
  have hp' := Lib.hid hp
  have q1' := Lib.hid q1
  have q2' := Lib.hid q2
  clear hx hp q1 q2
  generalize mv (mk xs) m 1 = A at hx' q1' l1
  generalize mv (mk xs) m (-1) = B at hp' q2' l2
  generalize tot xs = T at *
  go_wp2_with fail
  refine (hx'.out _ (Below.refl _ _)).mono ?_
  rintro e w2 ⟨rfl, hb2⟩
  go_wp2_with fail
  refine (hp'.out _ hb2).mono ?_
  rintro e w3 ⟨rfl, hb3⟩
  go_wp2_with fail
  refine (q1'.out _ hb3).mono ?_
  rintro e w4 ⟨rfl, hb4⟩
  go_wp2_with fail
  refine (q2'.out _ hb4).mono ?_
  rintro e w5 ⟨rfl, hb5⟩
  go_wp2
  go_ret
  exact ⟨rfl, hb0.out.trans (hb5.mono hb0.out.size)⟩

set_option maxHeartbeats 1000000 in
theorem fnMoveOne_walk (a0 : Option Addr) (n0 c0 : Nat) (x0 : List Int) (w : World) (h0 : Rd .u8 w a0 n0 c0 x0) (f0 : ∀ x ∈ x0, (Lit.int .u8 x).wf = true) (s0 : c0 * 1 ≤ 140737488351232) (d0 : ∀ ad, a0 = some ad → ad.block < w.heap.size) :
    Calls Try.prog 6 #[.slice a0 n0 c0] w fun e w' => e = .returned (.bool true) ∧ Below w.heap.size w w' := by
  have hnot : ∀ (x : Bool) (w : World), (Op.unary .not (.bool x)).run Try.prog w = .ok (.bool (!x)) w := fun _ _ => rfl
  have l := h0.le
  have hB := Lib.hid (bytes_of_wf f0)
  have hd0 := Lib.hid d0
  have h0' := Lib.hid h0
  clear f0 d0 h0
  go_enter Try.func6, Try.ntmps6
  go_wp2_with fail
  refine (large_calls a0 n0 c0 w (by omega)).mono ?_
  rintro e w' ⟨rfl, rfl⟩
  by_cases hbig : 1048576 < n0
  · have tb : decide (1048576 < n0) = true := by simpa using hbig
    go_wp2
    go_ret
    exact ⟨rfl, Below.refl _ _⟩
  have tb : decide (1048576 < n0) = false := by simpa using hbig
  clear hbig
  go_wp2_with fail
  refine (drawPrev_calls w a0 n0 c0 x0 h0'.out hB.out hd0.out).mono ?_
  clear h0' hB hd0 tb
  rintro e w1 ⟨a1, n1, c1, xs, m, rfl, hz0, hm, hbw⟩
  have hz := Lib.hid hz0
  have hb0 := Lib.hid hbw
  have ht := hz0.t21
  clear hz0 hbw
  go_wp2_with fail
  refine (hz.out.fits m hm).mono ?_
  rintro e w' ⟨rfl, rfl⟩
  by_cases hi : m < tot xs
  case neg =>
    have tf : decide (m < tot xs) = false := by simpa using hi
    have ho := Lib.hid (show tot xs ≤ m by omega)
    rw [tf]
    clear hi tf
    go_wp2_with fail
    refine (hz.out.prev_out m hm ho.out w1 (Below.refl _ _)).mono ?_
    rintro e w2 ⟨rfl, hb⟩
    go_wp2
    go_ret
    exact ⟨rfl, hb0.out.trans (hb.mono hb0.out.size)⟩
  have tf : decide (m < tot xs) = true := by simpa using hi
  rw [tf]
  have hi' := Lib.hid hi
  clear hi tf
  have hl := Lib.hid (hz.out.len_in m hm hi'.out)
  have hlen : (from' (mk xs) m).length ≤ 21 := by have := from_mk_le xs hi'.out; omega
  have hx := Lib.hid (hz.out.next_in m hm hi'.out)
  have hp := Lib.hid (hz.out.prev_in m hm hi'.out)
  have v1 := Lib.hid (hz.out.move_in m 1 hm (by omega) hi'.out)
  have v2 := Lib.hid (hz.out.move_in m (-1) hm (by omega) hi'.out)
  have v3 := hz.out.move_in m 0 hm (by omega) hi'.out
  have v4 := hz.out.move_in m ((from' (mk xs) m).length : Int) hm (by omega) hi'.out
  have v5 := hz.out.move_in m (-((from' (mk xs) m).length : Int)) hm (by omega) hi'.out
  rw [mk_mv_zero xs hi'.out] at v3
  rw [(mk_mv_len xs hi'.out).1] at v4
  rw [(mk_mv_len xs hi'.out).2] at v5
  have v3' := Lib.hid v3
  have v4' := Lib.hid v4
  have v5' := Lib.hid v5
  clear v3 v4 v5
  generalize mv (mk xs) m 1 = A at hx v1
  generalize mv (mk xs) m (-1) = B at hp v2
  generalize (from' (mk xs) m).length = N at hl v4' v5' hlen
  generalize tot xs = T at *
  go_wp2_with fail
  refine (hl.out _ (Below.refl _ _)).mono ?_
  rintro e w2 ⟨rfl, hb2⟩
  go_wp2_with fail
  refine (v1.out _ hb2).mono ?_
  rintro e w3 ⟨rfl, hb3⟩
  go_wp2_with fail
  refine (hx.out _ hb3).mono ?_
  rintro e w4 ⟨rfl, hb4⟩
  go_wp2_with fail
  refine (v2.out _ hb4).mono ?_
  rintro e w5 ⟨rfl, hb5⟩
  go_wp2_with fail
  refine (hp.out _ hb5).mono ?_
  rintro e w6 ⟨rfl, hb6⟩
  go_wp2_with fail
  refine (v3'.out _ hb6).mono ?_
  rintro e w7 ⟨rfl, hb7⟩
  go_wp2_with fail
  refine (v4'.out _ hb7).mono ?_
  rintro e w8 ⟨rfl, hb8⟩
  go_wp2_with fail
  refine (v5'.out _ hb8).mono ?_
  rintro e w9 ⟨rfl, hb9⟩
  go_wp2
  go_ret
  exact ⟨rfl, hb0.out.trans (hb9.mono hb0.out.size)⟩

set_option maxHeartbeats 1000000 in
theorem fnMoveTwice_walk (a0 : Option Addr) (n0 c0 : Nat) (x0 : List Int) (w : World) (h0 : Rd .u8 w a0 n0 c0 x0) (f0 : ∀ x ∈ x0, (Lit.int .u8 x).wf = true) (s0 : c0 * 1 ≤ 140737488351232) (d0 : ∀ ad, a0 = some ad → ad.block < w.heap.size) :
    Calls Try.prog 7 #[.slice a0 n0 c0] w fun e w' => e = .returned (.bool true) ∧ Below w.heap.size w w' := by
  have hnot : ∀ (x : Bool) (w : World), (Op.unary .not (.bool x)).run Try.prog w = .ok (.bool (!x)) w := fun _ _ => rfl
  have l := h0.le
  have hB := Lib.hid (bytes_of_wf f0)
  have hd0 := Lib.hid d0
  have h0' := Lib.hid h0
  clear f0 d0 h0
  go_enter Try.func7, Try.ntmps7
  go_wp2_with fail
  refine (large_calls a0 n0 c0 w (by omega)).mono ?_
  rintro e w' ⟨rfl, rfl⟩
  by_cases hbig : 1048576 < n0
  · have tb : decide (1048576 < n0) = true := by simpa using hbig
    go_wp2
    go_ret
    exact ⟨rfl, Below.refl _ _⟩
  have tb : decide (1048576 < n0) = false := by simpa using hbig
  clear hbig
  go_wp2_with fail
  refine (drawMove_calls w a0 n0 c0 x0 h0'.out hB.out hd0.out).mono ?_
  clear h0' hB hd0 tb
  rintro e w1 ⟨a1, n1, c1, xs, m, z, rfl, hz0, hm, hzz, hbw⟩
  have hz := Lib.hid hz0
  have hb0 := Lib.hid hbw
  have ht := hz0.t21
  clear hz0 hbw
  go_wp2_with fail
  refine (hz.out.fits m hm).mono ?_
  rintro e w' ⟨rfl, rfl⟩
  by_cases hi : m < tot xs
  case neg =>
    have tf : decide (m < tot xs) = false := by simpa using hi
    have ho := Lib.hid (show tot xs ≤ m by omega)
    rw [tf]
    clear hi tf
    go_wp2_with fail
    refine (hz.out.move_out m z hm (by omega) ho.out w1 (Below.refl _ _)).mono ?_
    rintro e w2 ⟨rfl, hb⟩
    go_wp2
    go_ret
    exact ⟨rfl, hb0.out.trans (hb.mono hb0.out.size)⟩
  have tf : decide (m < tot xs) = true := by simpa using hi
  rw [tf]
  have hi' := Lib.hid hi
  clear hi tf
  have v0 := Lib.hid (hz.out.move_in m z hm (by omega) hi'.out)
  by_cases hbig : 999990 < z ∨ z < -999990
  case pos =>
    have hgo : ∀ (P : Prop), (999990 < z → P) → (¬ 999990 < z → z < -999990 → P) → P := fun P h1 h2 => by
      by_cases q : 999990 < z
      · exact h1 q
      · exact h2 q (by omega)
    clear hbig
    refine hgo _ (fun q1 => ?_) (fun q1 q2 => ?_)
    all_goals
      clear hgo
      go_wp2_with fail
      refine (v0.out _ (Below.refl _ _)).mono ?_
      rintro e w2 ⟨rfl, hb2⟩
      go_wp2_with fail
      refine (hz.out.made _ hb2).mono ?_
      rintro e w3 ⟨a2, n2, c2, rfl, hr2, hb3⟩
      have hr2' := Lib.hid (hr2.move (by omega) hi'.out z (by omega))
      clear hr2
      go_wp2_with fail
      refine hr2'.out.mono ?_
      rintro e w4 ⟨rfl, hb4⟩
      go_wp2
      go_ret
      exact ⟨by simp, hb0.out.trans ((hb3.trans (hb4.mono hb3.size)).mono hb0.out.size)⟩
  have g1 : ¬ 999990 < z := by omega
  have g2 : ¬ z < -999990 := by omega
  clear hbig
  have l1 := mv_mk_lt xs hi'.out z
  have vb := hz.out.move_in (mv (mk xs) m z) (-z) (by omega) (by omega) l1
  rw [mk_mv_mv xs hi'.out, show z + -z = 0 by omega, mk_mv_zero xs hi'.out] at vb
  have vb' := Lib.hid vb
  have va : Hid (∀ k : Int, -3 ≤ k → k ≤ 3 → ∀ u, Below w1.heap.size w1 u → Calls Try.prog 23 #[.slice a1 n1 c1, .int .u16 ((mv (mk xs) m z : Nat) : Int), .int .i64 k] u (NumB w1 (mv (mk xs) m (z + k) : Nat))) := by
    intro k h1 h2 u hu
    have := hz.out.move_in (mv (mk xs) m z) k (by omega) (by omega) l1 u hu
    rwa [mk_mv_mv xs hi'.out] at this
  have vc : Hid (∀ k : Int, -3 ≤ k → k ≤ 3 → ∀ u, Below w1.heap.size w1 u → Calls Try.prog 23 #[.slice a1 n1 c1, .int .u16 (m : Int), .int .i64 (z + k)] u (NumB w1 (mv (mk xs) m (z + k) : Nat))) := 
    fun k h1 h2 u hu => hz.out.move_in m (z + k) hm (by omega) hi'.out u hu
  clear vb
  generalize mv (mk xs) m z = A at v0 vb' va l1
  have hA : A ≤ 65535 := by omega
  clear ht
  go_wp2_with fail
  refine (v0.out _ (Below.refl _ _)).mono ?_
  rintro e w2 ⟨rfl, hb2⟩
  have hb2' := Lib.hid hb2
  clear hb2 v0 hz
  go_wp2
  go_loopw [7] (fun v wr => ∃ k : Int, -3 ≤ k ∧ k ≤ 4 ∧ v = .int .i64 k ∧ Hid (Below w1.heap.size w1 wr)) (fun v _ => (4 - intOf v).toNat)
  case atStart => exact ⟨-3, by omega, by omega, rfl, hb2'⟩
  case round =>
    clear hb2'
    obtain ⟨k, hk1, hk2, rfl, hbr⟩ := hrel
    by_cases hlt : k < 4
    · go_wp2_with fail
      refine (va.out k hk1 (by omega) _ hbr.out).mono ?_
      rintro e w3 ⟨rfl, hb3⟩
      go_wp2_with fail
      refine (vc.out k hk1 (by omega) _ hb3).mono ?_
      rintro e w4 ⟨rfl, hb4⟩
      have hb4' := Lib.hid hb4
      clear hb3 hb4 hbr
      go_wp2
      go_roundw
      case rel => exact ⟨k + 1, by omega, by omega, rfl, hb4'⟩
      case measure => simp [intOf]; omega
    · go_wp2_with fail
      refine (vb'.out _ hbr.out).mono ?_
      rintro e w3 ⟨rfl, hb3⟩
      go_wp2
      go_ret
      exact ⟨rfl, hb0.out.trans (hb3.mono hb0.out.size)⟩

end Go.Proofs.Ytjkpphenfcddlaa

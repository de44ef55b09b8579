/- (spec.Rings).Call: one call of a script on the reference's rings. Written by genscall.py. -/
import Derived.Test.YtmkkkhlalacaiaaOps
namespace Go.Proofs.Ytmkkkhlalacaiaa
open Go.RowKit
open Go.Proofs.Ytmkkkhlalacaiaa.Rm
set_option linter.unusedVariables false
set_option linter.unusedSimpArgs false

/-- The world in which Call has laid its argument. -/
abbrev opS (w : World) (p : OpV) : World := w.alloc (.cells #[.string p.kind, .int .u16 (p.at' : Int), .int .u16 (p.to : Int), .int .i64 p.n] 37)
/-- What Call comes to: the rings behind it, and the result, where it is told. -/
def SCallPost (w : World) (t : List (List Nat)) (m : Int) (e : Ending) (w' : World) : Prop :=
  ∃ a n c r ok, e = .returned (.tuple #[.slice a n c, .int .i64 r, .bool ok]) ∧ (ok = true → r = m) ∧ Rr w' a n c t ∧ Below w.heap.size w w'

set_option maxHeartbeats 1000000 in
theorem scall_calls (w : World) (a : Option Addr) (n c : Nat) (t : List (List Nat)) (N : Nat) (nx pv : Nat → Nat) (p : OpV) (h : Rr w a n c t) (hR : Rep N nx t) (hI : Inv N nx pv) (hN : N ≤ 65536) (hn : n ≤ 70000) (hi : p.at' < N) (hj : p.to < N) (hz : -1000000 ≤ p.n ∧ p.n ≤ 1000000) (hu : (p.kind.toList == kUnlink) = true → 0 ≤ p.n) :
    Calls Try.prog 13 #[.slice a n c, p.val] w (SCallPost w (stT t p) (resT t p)) := by
  obtain ⟨k, i, j, z⟩ := p
  simp only at hi hj hz hu
  have hba : Below w.heap.size w (opS w ⟨k, i, j, z⟩) := (Below.refl _ _).alloc (Nat.le_refl _) _
  have h' := Lib.hid (h.below hba (Nat.le_refl _))
  have hb := Lib.hid hba
  have hI' := Lib.hid hI
  have hR' := Lib.hid hR
  have hu' := Lib.hid hu
  have hlp := (hR.from_ring hi).pos
  have hll := hR.len_le hi
  have hlm : Hid (∀ l, l ∈ t → l.length ≤ 100000) := fun l hl => Nat.le_trans (hR.len_mem hl) (by omega)
  have hle := h.2.1
  have hcm := h.2.2.1
  clear h hR hba hI hu
  by_cases hk_next : (k.toList == [110, 101, 120, 116]) = true
  case pos =>
    have er : Hid (resT t ⟨k, i, j, z⟩ = (mv t i 1 : Nat)) := by show _ = _; unfold resT; simp only [hk_next, if_true, Bool.false_eq_true, if_false]
    have es : Hid (stT t ⟨k, i, j, z⟩ = t) := by show _ = _; unfold stT; simp only [hk_next, if_true, Bool.false_eq_true, if_false]
    rw [er.out, es.out]
    clear er es
    go_enter Try.func13, Try.ntmps13
    go_wp2_with fail
    refine (smove_calls (opS w ⟨k, i, j, z⟩) a n c t i 1 h'.out (by omega) hlm.out (by omega) hlp (by omega) (by omega)).mono ?_
    rintro e w2 ⟨rfl, hb2⟩
    have hb2' := Lib.hid hb2
    clear hb2
    go_wp2
    go_ret3
    exact ⟨_, _, _, _, _, rfl, fun _ => rfl, h'.out.below hb2'.out (Nat.le_refl _), hb.out.trans (hb2'.out.mono hb.out.size)⟩
  have hk_next' : (k.toList == [110, 101, 120, 116]) = false := by simpa using hk_next
  clear hk_next
  by_cases hk_prev : (k.toList == [112, 114, 101, 118]) = true
  case pos =>
    have er : Hid (resT t ⟨k, i, j, z⟩ = (mv t i (-1) : Nat)) := by show _ = _; unfold resT; simp only [hk_next', hk_prev, if_true, Bool.false_eq_true, if_false]
    have es : Hid (stT t ⟨k, i, j, z⟩ = t) := by show _ = _; unfold stT; simp only [hk_next', hk_prev, if_true, Bool.false_eq_true, if_false]
    rw [er.out, es.out]
    clear er es
    go_enter Try.func13, Try.ntmps13
    go_wp2_with fail
    refine (smove_calls (opS w ⟨k, i, j, z⟩) a n c t i (-1) h'.out (by omega) hlm.out (by omega) hlp (by omega) (by omega)).mono ?_
    rintro e w2 ⟨rfl, hb2⟩
    have hb2' := Lib.hid hb2
    clear hb2
    go_wp2
    go_ret3
    exact ⟨_, _, _, _, _, rfl, fun _ => rfl, h'.out.below hb2'.out (Nat.le_refl _), hb.out.trans (hb2'.out.mono hb.out.size)⟩
  have hk_prev' : (k.toList == [112, 114, 101, 118]) = false := by simpa using hk_prev
  clear hk_prev
  by_cases hk_move : (k.toList == [109, 111, 118, 101]) = true
  case pos =>
    have er : Hid (resT t ⟨k, i, j, z⟩ = (mv t i z : Nat)) := by show _ = _; unfold resT; simp only [hk_next', hk_prev', hk_move, if_true, Bool.false_eq_true, if_false]
    have es : Hid (stT t ⟨k, i, j, z⟩ = t) := by show _ = _; unfold stT; simp only [hk_next', hk_prev', hk_move, if_true, Bool.false_eq_true, if_false]
    rw [er.out, es.out]
    clear er es
    go_enter Try.func13, Try.ntmps13
    go_wp2_with fail
    refine (smove_calls (opS w ⟨k, i, j, z⟩) a n c t i z h'.out (by omega) hlm.out (by omega) hlp (by omega) (by omega)).mono ?_
    rintro e w2 ⟨rfl, hb2⟩
    have hb2' := Lib.hid hb2
    clear hb2
    go_wp2
    go_ret3
    exact ⟨_, _, _, _, _, rfl, fun _ => rfl, h'.out.below hb2'.out (Nat.le_refl _), hb.out.trans (hb2'.out.mono hb.out.size)⟩
  have hk_move' : (k.toList == [109, 111, 118, 101]) = false := by simpa using hk_move
  clear hk_move
  by_cases hk_len : (k.toList == [108, 101, 110]) = true
  case pos =>
    have er : Hid (resT t ⟨k, i, j, z⟩ = ((from' t i).length : Nat)) := by show _ = _; unfold resT; simp only [hk_next', hk_prev', hk_move', hk_len, if_true, Bool.false_eq_true, if_false]
    have es : Hid (stT t ⟨k, i, j, z⟩ = t) := by show _ = _; unfold stT; simp only [hk_next', hk_prev', hk_move', hk_len, if_true, Bool.false_eq_true, if_false]
    rw [er.out, es.out]
    clear er es
    go_enter Try.func13, Try.ntmps13
    go_wp2_with fail
    refine (from_calls (opS w ⟨k, i, j, z⟩) a n c t i h'.out (by omega) hlm.out (by omega)).mono ?_
    rintro e w2 ⟨a2, n2, c2, rfl, r2, hb2⟩
    have hb2' := Lib.hid hb2
    have e2 := r2.len
    rw [nats_length] at e2
    have e2' := Lib.hid e2
    clear hb2 r2 e2
    go_wp2
    go_ret3
    exact ⟨_, _, _, _, _, rfl, fun _ => by rw [e2'.out], h'.out.below hb2'.out (Nat.le_refl _), hb.out.trans (hb2'.out.mono hb.out.size)⟩
  have hk_len' : (k.toList == [108, 101, 110]) = false := by simpa using hk_len
  clear hk_len
  by_cases hk_link : (k.toList == [108, 105, 110, 107]) = true
  case pos =>
    have er : Hid (resT t ⟨k, i, j, z⟩ = (mv t i 1 : Nat)) := by show _ = _; unfold resT; simp only [hk_next', hk_prev', hk_move', hk_len', hk_link, if_true, Bool.false_eq_true, if_false]
    have es : Hid (stT t ⟨k, i, j, z⟩ = Rm.link t i j) := by show _ = _; unfold stT; simp only [hk_next', hk_prev', hk_move', hk_len', hk_link, if_true, Bool.false_eq_true, if_false]
    rw [er.out, es.out]
    clear er es
    go_enter Try.func13, Try.ntmps13
    go_wp2_with fail
    refine (slink_calls (opS w ⟨k, i, j, z⟩) a n c t N nx pv i j h'.out hR'.out hI'.out hN hn hi hj).mono ?_
    rintro e w2 ⟨a2, n2, c2, rfl, r2, hb2⟩
    have hb2' := Lib.hid hb2
    have r2' := Lib.hid r2
    clear hb2 r2
    go_wp2
    go_ret3
    exact ⟨_, _, _, _, _, rfl, fun _ => rfl, r2'.out, hb.out.trans (hb2'.out.mono hb.out.size)⟩
  have hk_link' : (k.toList == [108, 105, 110, 107]) = false := by simpa using hk_link
  clear hk_link
  by_cases hk_unlink : (k.toList == [117, 110, 108, 105, 110, 107]) = true
  case pos =>
    have er : Hid (resT t ⟨k, i, j, z⟩ = (if z ≤ 0 then (-1 : Int) else ((mv t i 1 : Nat) : Int))) := by show _ = _; unfold resT; simp only [hk_next', hk_prev', hk_move', hk_len', hk_link', hk_unlink, if_true, Bool.false_eq_true, if_false]
    have es : Hid (stT t ⟨k, i, j, z⟩ = (if z ≤ 0 then t else unlink t i z.toNat)) := by show _ = _; unfold stT; simp only [hk_next', hk_prev', hk_move', hk_len', hk_link', hk_unlink, if_true, Bool.false_eq_true, if_false]
    rw [er.out, es.out]
    clear er es
    obtain ⟨Z, rfl⟩ := Int.eq_ofNat_of_zero_le (hu'.out hk_unlink)
    simp only [Int.toNat_natCast]
    by_cases hk0 : Z % (from' t i).length = 0
    · have est : Hid ((if (Z : Int) ≤ 0 then t else unlink t i Z) = t) := by
        show _ = _
        split
        · rfl
        · unfold unlink; rw [if_pos hk0]
      rw [est.out]
      generalize (if (Z : Int) ≤ 0 then (-1 : Int) else ((mv t i 1 : Nat) : Int)) = R
      have hk0' := Lib.hid hk0
      clear est hk0
      go_enter Try.func13, Try.ntmps13
      go_wp2_with fail
      refine (sunlink_none (opS w ⟨k, i, j, (Z : Int)⟩) a n c t N nx pv i Z h'.out hR'.out hI'.out hN hn hi (by omega) hk0'.out).mono ?_
      rintro e w2 ⟨a2, n2, c2, rfl, r2, hb2⟩
      have hb2' := Lib.hid hb2
      have r2' := Lib.hid r2
      clear hb2 r2
      go_wp2
      go_ret3
      exact ⟨_, _, _, _, _, rfl, (fun q => by simp at q), r2'.out, hb.out.trans (hb2'.out.mono hb.out.size)⟩
    · have hZ : ¬ ((Z : Int) ≤ 0) := by
        intro q
        have : Z = 0 := by omega
        subst this
        exact hk0 (Nat.zero_mod _)
      rw [if_neg hZ, if_neg hZ]
      have est : Hid (unlink t i Z = Rm.link t i (mv t i ((Z : Int) + 1))) := by show _ = _; unfold unlink; rw [if_neg hk0]
      rw [est.out]
      have hk0' := Lib.hid hk0
      clear est hk0 hZ
      go_enter Try.func13, Try.ntmps13
      go_wp2_with fail
      refine (sunlink_calls (opS w ⟨k, i, j, (Z : Int)⟩) a n c t N nx pv i Z h'.out hR'.out hI'.out hN hn hi (by omega) hk0'.out).mono ?_
      rintro e w2 ⟨a2, n2, c2, rfl, r2, hb2⟩
      have hb2' := Lib.hid hb2
      have r2' := Lib.hid r2
      clear hb2 r2
      go_wp2
      go_ret3
      exact ⟨_, _, _, _, _, rfl, fun _ => rfl, r2'.out, hb.out.trans (hb2'.out.mono hb.out.size)⟩
  have hk_unlink' : (k.toList == [117, 110, 108, 105, 110, 107]) = false := by simpa using hk_unlink
  clear hk_unlink
  have er : Hid (resT t ⟨k, i, j, z⟩ = -3) := by show _ = _; unfold resT; simp only [hk_next', hk_prev', hk_move', hk_len', hk_link', hk_unlink', Bool.false_eq_true, if_false]
  have es : Hid (stT t ⟨k, i, j, z⟩ = t) := by show _ = _; unfold stT; simp only [hk_next', hk_prev', hk_move', hk_len', hk_link', hk_unlink', Bool.false_eq_true, if_false]
  rw [er.out, es.out]
  clear er es
  go_enter Try.func13, Try.ntmps13
  go_wp2
  go_ret3
  exact ⟨_, _, _, _, _, rfl, fun _ => rfl, h'.out, hb.out⟩

end Go.Proofs.Ytmkkkhlalacaiaa

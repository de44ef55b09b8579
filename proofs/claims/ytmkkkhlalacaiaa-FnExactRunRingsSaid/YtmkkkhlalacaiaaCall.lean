/- impl.call: one call of a script. Written by gencall.py. -/
import Derived.Test.YtmkkkhlalacaiaaRb
import Derived.Test.YtmkkkhlalacaiaaLink
import Derived.Test.YtmkkkhlalacaiaaUnl
namespace Go.Proofs.Ytmkkkhlalacaiaa
open Go.RowKit
open Go.Proofs.Ytmkkkhlalacaiaa.Rm
set_option linter.unusedVariables false
set_option linter.unusedSimpArgs false

/-- One call of a script. -/
structure OpV where
  kind : ByteArray
  at' : Nat
  to : Nat
  n : Int
abbrev kNext : List UInt8 := [110, 101, 120, 116]
abbrev kPrev : List UInt8 := [112, 114, 101, 118]
abbrev kMove : List UInt8 := [109, 111, 118, 101]
abbrev kLen : List UInt8 := [108, 101, 110]
abbrev kLink : List UInt8 := [108, 105, 110, 107]
abbrev kUnlink : List UInt8 := [117, 110, 108, 105, 110, 107]
/-- What a call returns, as the reference's rings tell it. -/
def resT (t : List (List Nat)) (p : OpV) : Int :=
  if (p.kind.toList == kNext) = true then (mv t p.at' 1 : Nat)
  else if (p.kind.toList == kPrev) = true then (mv t p.at' (-1) : Nat)
  else if (p.kind.toList == kMove) = true then (mv t p.at' p.n : Nat)
  else if (p.kind.toList == kLen) = true then ((from' t p.at').length : Nat)
  else if (p.kind.toList == kLink) = true then (mv t p.at' 1 : Nat)
  else if (p.kind.toList == kUnlink) = true then (if p.n ≤ 0 then -1 else (mv t p.at' 1 : Nat))
  else -3
/-- The rings behind a call. -/
def stT (t : List (List Nat)) (p : OpV) : List (List Nat) :=
  if (p.kind.toList == kNext) = true then t
  else if (p.kind.toList == kPrev) = true then t
  else if (p.kind.toList == kMove) = true then t
  else if (p.kind.toList == kLen) = true then t
  else if (p.kind.toList == kLink) = true then Rm.link t p.at' p.to
  else if (p.kind.toList == kUnlink) = true then (if p.n ≤ 0 then t else unlink t p.at' p.n.toNat)
  else t
/-- The value of an op. -/
abbrev OpV.val (p : OpV) : Value := .agg #[.string p.kind, .int .u16 (p.at' : Int), .int .u16 (p.to : Int), .int .i64 p.n]
/-- The world in which call has laid its argument. -/
abbrev opW (w : World) (p : OpV) : World := w.alloc (.cells #[.string p.kind, .int .u16 (p.at' : Int), .int .u16 (p.to : Int), .int .i64 p.n] 47)
/-- What call comes to. -/
def CallPost (w : World) (Bk : Nat → Nat) (N : Nat) (t : List (List Nat)) (m : Int) (e : Ending) (w' : World) : Prop :=
  ∃ nx pv, e = .returned (.int .i64 m) ∧ Rg w' Bk N nx pv (vals N) ∧ Rep N nx t ∧ RB Bk N w.heap.size w w'

set_option maxHeartbeats 1000000 in
theorem call_calls (w : World) (Bk : Nat → Nat) (N : Nat) (nx pv : Nat → Nat) (t : List (List Nat)) (p : OpV) (h : Rg w Bk N nx pv (vals N)) (hR : Rep N nx t) (hN : N ≤ 65536) (hi : p.at' < N) (hj : p.to < N) (hz : -9223372036854775808 ≤ p.n ∧ p.n ≤ 9223372036854775806) :
    Calls Try.prog 22 #[ptr (Bk p.at'), ptr (Bk p.to), p.val] w (CallPost w Bk N (stT t p) (resT t p)) := by
  obtain ⟨k, i, j, z⟩ := p
  simp only at hi hj hz
  have hba : Below w.heap.size w (opW w ⟨k, i, j, z⟩) := (Below.refl _ _).alloc (Nat.le_refl _) _
  have hg : Hid (Rg (opW w ⟨k, i, j, z⟩) Bk N nx pv (vals N)) := h.keep fun q hq => hba.block _ (h.lt hq)
  have hb : Hid (RB Bk N w.heap.size w (opW w ⟨k, i, j, z⟩)) := rb_of_below hba (Nat.le_refl _) _ _
  have hI := Lib.hid h.inv
  have hR' := Lib.hid hR
  clear h hR hba
  by_cases hk_next : (k.toList == [110, 101, 120, 116]) = true
  case pos =>
    have er : Hid (resT t ⟨k, i, j, z⟩ = (mv t i 1 : Nat)) := by show _ = _; unfold resT; simp only [hk_next, if_true, Bool.false_eq_true, if_false]
    have es : Hid (stT t ⟨k, i, j, z⟩ = t) := by show _ = _; unfold stT; simp only [hk_next, if_true, Bool.false_eq_true, if_false]
    rw [er.out, es.out]
    clear er es
    go_enter Try.func22, Try.ntmps22
    go_wp2_with fail
    refine (next_calls (opW w ⟨k, i, j, z⟩) Bk N nx pv _ i hg.out hi).mono ?_
    rintro e w2 ⟨rfl, r1, _, r3⟩
    have hix := r1.index (r1.inv.nlt i hi)
    have r1' := Lib.hid r1
    have r3' := Lib.hid r3
    clear r1 r3
    go_wp2_with fail
    refine hix.mono ?_
    rintro e w3 ⟨rfl, rfl⟩
    clear hix
    go_wp2
    go_ret
    exact ⟨nx, pv, by rw [← hR'.out.next hI.out hi]; rfl, r1'.out, hR'.out, hb.out.trans (r3'.out.rb _)⟩
  have hk_next' : (k.toList == [110, 101, 120, 116]) = false := by simpa using hk_next
  clear hk_next
  by_cases hk_prev : (k.toList == [112, 114, 101, 118]) = true
  case pos =>
    have er : Hid (resT t ⟨k, i, j, z⟩ = (mv t i (-1) : Nat)) := by show _ = _; unfold resT; simp only [hk_next', hk_prev, if_true, Bool.false_eq_true, if_false]
    have es : Hid (stT t ⟨k, i, j, z⟩ = t) := by show _ = _; unfold stT; simp only [hk_next', hk_prev, if_true, Bool.false_eq_true, if_false]
    rw [er.out, es.out]
    clear er es
    go_enter Try.func22, Try.ntmps22
    go_wp2_with fail
    refine (prev_calls (opW w ⟨k, i, j, z⟩) Bk N nx pv _ i hg.out hi).mono ?_
    rintro e w2 ⟨rfl, r1, _, r3⟩
    have hix := r1.index (r1.inv.plt i hi)
    have r1' := Lib.hid r1
    have r3' := Lib.hid r3
    clear r1 r3
    go_wp2_with fail
    refine hix.mono ?_
    rintro e w3 ⟨rfl, rfl⟩
    clear hix
    go_wp2
    go_ret
    exact ⟨nx, pv, by rw [← hR'.out.prev hI.out hi]; rfl, r1'.out, hR'.out, hb.out.trans (r3'.out.rb _)⟩
  have hk_prev' : (k.toList == [112, 114, 101, 118]) = false := by simpa using hk_prev
  clear hk_prev
  by_cases hk_move : (k.toList == [109, 111, 118, 101]) = true
  case pos =>
    have er : Hid (resT t ⟨k, i, j, z⟩ = (mv t i z : Nat)) := by show _ = _; unfold resT; simp only [hk_next', hk_prev', hk_move, if_true, Bool.false_eq_true, if_false]
    have es : Hid (stT t ⟨k, i, j, z⟩ = t) := by show _ = _; unfold stT; simp only [hk_next', hk_prev', hk_move, if_true, Bool.false_eq_true, if_false]
    rw [er.out, es.out]
    clear er es
    go_enter Try.func22, Try.ntmps22
    go_wp2_with fail
    refine (move_calls (opW w ⟨k, i, j, z⟩) Bk N nx pv _ i z hg.out hi (by omega)).mono ?_
    rintro e w2 ⟨rfl, r1, _, r3⟩
    have hix := r1.index (moved_lt r1.inv hi z)
    have r1' := Lib.hid r1
    have r3' := Lib.hid r3
    clear r1 r3
    go_wp2_with fail
    refine hix.mono ?_
    rintro e w3 ⟨rfl, rfl⟩
    clear hix
    go_wp2
    go_ret
    exact ⟨nx, pv, by rw [← hR'.out.moved_eq hI.out hi z]; rfl, r1'.out, hR'.out, hb.out.trans (r3'.out.rb _)⟩
  have hk_move' : (k.toList == [109, 111, 118, 101]) = false := by simpa using hk_move
  clear hk_move
  by_cases hk_len : (k.toList == [108, 101, 110]) = true
  case pos =>
    have er : Hid (resT t ⟨k, i, j, z⟩ = ((from' t i).length : Nat)) := by show _ = _; unfold resT; simp only [hk_next', hk_prev', hk_move', hk_len, if_true, Bool.false_eq_true, if_false]
    have es : Hid (stT t ⟨k, i, j, z⟩ = t) := by show _ = _; unfold stT; simp only [hk_next', hk_prev', hk_move', hk_len, if_true, Bool.false_eq_true, if_false]
    rw [er.out, es.out]
    clear er es
    go_enter Try.func22, Try.ntmps22
    go_wp2_with fail
    refine (len_calls (opW w ⟨k, i, j, z⟩) Bk N nx pv _ i _ hg.out hi (hR'.out.from_ring hi) (Nat.le_trans (hR'.out.len_le hi) (by omega))).mono ?_
    rintro e w2 ⟨rfl, r1, r3⟩
    have r1' := Lib.hid r1
    have r3' := Lib.hid r3
    clear r1 r3
    go_wp2
    go_ret
    exact ⟨nx, pv, rfl, r1'.out, hR'.out, hb.out.trans (r3'.out.rb _)⟩
  have hk_len' : (k.toList == [108, 101, 110]) = false := by simpa using hk_len
  clear hk_len
  by_cases hk_link : (k.toList == [108, 105, 110, 107]) = true
  case pos =>
    have er : Hid (resT t ⟨k, i, j, z⟩ = (mv t i 1 : Nat)) := by show _ = _; unfold resT; simp only [hk_next', hk_prev', hk_move', hk_len', hk_link, if_true, Bool.false_eq_true, if_false]
    have es : Hid (stT t ⟨k, i, j, z⟩ = Rm.link t i j) := by show _ = _; unfold stT; simp only [hk_next', hk_prev', hk_move', hk_len', hk_link, if_true, Bool.false_eq_true, if_false]
    rw [er.out, es.out]
    clear er es
    go_enter Try.func22, Try.ntmps22
    go_wp2_with fail
    refine (link_calls (opW w ⟨k, i, j, z⟩) Bk N nx pv _ i j hg.out hi hj).mono ?_
    rintro e w2 ⟨rfl, r1, r3⟩
    have hix := r1.index (hI.out.nlt i hi)
    have r1' := Lib.hid r1
    have r3' := Lib.hid r3
    clear r1 r3
    go_wp2_with fail
    refine hix.mono ?_
    rintro e w3 ⟨rfl, rfl⟩
    clear hix
    go_wp2
    go_ret
    exact ⟨_, _, by rw [← hR'.out.next hI.out hi]; rfl, r1'.out, hR'.out.link hI.out hi hj, hb.out.trans (r3'.out.rb _)⟩
  have hk_link' : (k.toList == [108, 105, 110, 107]) = false := by simpa using hk_link
  clear hk_link
  by_cases hk_unlink : (k.toList == [117, 110, 108, 105, 110, 107]) = true
  case pos =>
    have er : Hid (resT t ⟨k, i, j, z⟩ = (if z ≤ 0 then (-1 : Int) else ((mv t i 1 : Nat) : Int))) := by show _ = _; unfold resT; simp only [hk_next', hk_prev', hk_move', hk_len', hk_link', hk_unlink, if_true, Bool.false_eq_true, if_false]
    have es : Hid (stT t ⟨k, i, j, z⟩ = (if z ≤ 0 then t else unlink t i z.toNat)) := by show _ = _; unfold stT; simp only [hk_next', hk_prev', hk_move', hk_len', hk_link', hk_unlink, if_true, Bool.false_eq_true, if_false]
    rw [er.out, es.out]
    clear er es
    by_cases hzz : z ≤ 0
    · rw [if_pos hzz, if_pos hzz]
      go_enter Try.func22, Try.ntmps22
      go_wp2_with fail
      refine (unlink_none _ (Bk i) z hzz).mono ?_
      rintro e w2 ⟨rfl, rfl⟩
      go_wp2_with fail
      refine (index_nil _).mono ?_
      rintro e w3 ⟨rfl, rfl⟩
      go_wp2
      go_ret
      exact ⟨nx, pv, rfl, hg.out, hR'.out, hb.out⟩
    · rw [if_neg hzz, if_neg hzz]
      obtain ⟨Z, rfl⟩ := Int.eq_ofNat_of_zero_le (show 0 ≤ z by omega)
      simp only [Int.toNat_natCast]
      have hzp : 0 < (Z : Int) := by omega
      clear hzz
      have hul := unlink_calls (opW w ⟨k, i, j, (Z : Int)⟩) Bk N nx pv (vals N) i (Z : Int) hg.out hi (by omega)
      rw [hR'.out.moved_eq hI.out hi] at hul
      go_enter Try.func22, Try.ntmps22
      go_wp2_with fail
      refine (hul).mono ?_
      rintro e w2 ⟨rfl, r1, r3⟩
      have hix := r1.index (hI.out.nlt i hi)
      have r1' := Lib.hid r1
      have r3' := Lib.hid r3
      clear r1 r3
      go_wp2_with fail
      refine hix.mono ?_
      rintro e w3 ⟨rfl, rfl⟩
      clear hix
      go_wp2
      go_ret
      exact ⟨_, _, by rw [← hR'.out.next hI.out hi]; rfl, r1'.out, hR'.out.unlinked hI.out hi Z, hb.out.trans (r3'.out.rb _)⟩
  have hk_unlink' : (k.toList == [117, 110, 108, 105, 110, 107]) = false := by simpa using hk_unlink
  clear hk_unlink
  have er : Hid (resT t ⟨k, i, j, z⟩ = -3) := by show _ = _; unfold resT; simp only [hk_next', hk_prev', hk_move', hk_len', hk_link', hk_unlink', Bool.false_eq_true, if_false]
  have es : Hid (stT t ⟨k, i, j, z⟩ = t) := by show _ = _; unfold stT; simp only [hk_next', hk_prev', hk_move', hk_len', hk_link', hk_unlink', Bool.false_eq_true, if_false]
  rw [er.out, es.out]
  clear er es
  go_enter Try.func22, Try.ntmps22
  go_wp2
  go_ret
  exact ⟨nx, pv, rfl, hg.out, hR'.out, hb.out⟩

end Go.Proofs.Ytmkkkhlalacaiaa

/- The drawn laws FnLinkTwice and FnUnlinkLink, walked. Written by gendrawnd.py. -/
import Derived.Test.YtbkclmkncenaeaaUseL
import Derived.Test.YtbkclmkncenaeaaRunL
import Derived.Deep.RegionLaw
namespace Go.Proofs.Ytbkclmkncenaeaa
open Go.RowKit
open Go.Proofs.Ytbkclmkncenaeaa.Rm
set_option linter.unusedVariables false

set_option maxHeartbeats 1000000 in
theorem fnLinkTwice_walk (a0 : Option Addr) (n0 c0 : Nat) (x0 : List Int) (w : World) (h0 : Rd .u8 w a0 n0 c0 x0) (f0 : ∀ x ∈ x0, (Lit.int .u8 x).wf = true) (s0 : c0 * 1 ≤ 140737488351232) (d0 : ∀ ad, a0 = some ad → ad.block < w.heap.size) :
    Calls Try.prog 4 #[.slice a0 n0 c0] w fun e w' => e = .returned (.bool true) ∧ Below w.heap.size w w' := by
  have hnot : ∀ (x : Bool) (w : World), (Op.unary .not (.bool x)).run Try.prog w = .ok (.bool (!x)) w := fun _ _ => rfl
  have l := h0.le
  have hB := Lib.hid (bytes_of_wf f0)
  have hd0 := Lib.hid d0
  have h0' := Lib.hid h0
  clear f0 d0 h0
  go_enter Try.func4, Try.ntmps4
  go_wp2_with fail
  refine (large_calls a0 n0 c0 w (by omega)).mono ?_
  rintro e w' ⟨rfl, rfl⟩
  by_cases hbig : 1048576 < n0
  · have tb : decide (1048576 < n0) = true := by simpa using hbig
    go_wp2
    go_ret
    exact ⟨rfl, Below.refl _ _⟩
  have tb : decide (1048576 < n0) = false := by simpa using hbig
  clear hbig
  go_wp2_with fail
  refine (drawLink_calls w a0 n0 c0 x0 h0'.out hB.out hd0.out).mono ?_
  clear h0' hB hd0 tb
  rintro e w1 ⟨a1, n1, c1, xs, m, j, rfl, hz0, hm, hjm, hbw⟩
  have hz := Lib.hid hz0
  have hb0 := Lib.hid hbw
  have ht := hz0.t21
  clear hz0 hbw
  go_wp2_with fail
  refine (hz.out.fits m hm).mono ?_
  rintro e w' ⟨rfl, rfl⟩
  by_cases hi : m < tot xs
  case neg =>
    have tf : decide (m < tot xs) = false := by simpa using hi
    rw [tf]
    have ho := Lib.hid (show tot xs ≤ m ∨ tot xs ≤ j by omega)
    clear hi tf
    go_wp2_with fail
    refine (hz.out.link_out m j hm hjm ho.out w1 (Below.refl _ _)).mono ?_
    rintro e w9 ⟨a9, n9, c9, a8, n8, c8, rfl, r9, r8, hb⟩
    have e9 := r9.len
    have e8 := r8.len
    simp only [List.length_nil] at e9 e8
    subst e9
    subst e8
    clear r9 r8
    go_wp2
    go_ret
    exact ⟨rfl, hb0.out.trans (hb.mono hb0.out.size)⟩
  have tf : decide (m < tot xs) = true := by simpa using hi
  rw [tf]
  have hi' := Lib.hid hi
  clear hi tf
  go_wp2_with fail
  refine (hz.out.fits j hjm).mono ?_
  rintro e w' ⟨rfl, rfl⟩
  by_cases hj : j < tot xs
  case neg =>
    have tf : decide (j < tot xs) = false := by simpa using hj
    rw [tf]
    have ho := Lib.hid (show tot xs ≤ m ∨ tot xs ≤ j by omega)
    clear hj tf
    go_wp2_with fail
    refine (hz.out.link_out m j hm hjm ho.out w1 (Below.refl _ _)).mono ?_
    rintro e w9 ⟨a9, n9, c9, a8, n8, c8, rfl, r9, r8, hb⟩
    have e9 := r9.len
    have e8 := r8.len
    simp only [List.length_nil] at e9 e8
    subst e9
    subst e8
    clear r9 r8
    go_wp2
    go_ret
    exact ⟨rfl, hb0.out.trans (hb.mono hb0.out.size)⟩
  have tf : decide (j < tot xs) = true := by simpa using hj
  rw [tf]
  have hj' := Lib.hid hj
  clear hj tf
  obtain ⟨nx, pv, hI0, hR0⟩ := rep_mk xs
  obtain ⟨K1, K2⟩ := link_back hI0 hR0 hi'.out hj'.out
  have hA := mv_mk_lt xs hi'.out 1
  have hA2 : mv (mk xs) m 1 ≤ 65535 := by omega
  have hrr : Hid (runR (tot xs) (mk xs) [⟨bLink, m, j, 0⟩, ⟨bLink, m, mv (mk xs) m 1, 0⟩] = ([((mv (mk xs) m 1 : Nat) : Int), (j : Int)], Rm.link (Rm.link (mk xs) m j) m (mv (mk xs) m 1))) := by
    show _ = _
    rw [runR_two ⟨hi'.out, hj'.out⟩ ⟨hi'.out, hA⟩, st_link, res_link, res_link, st_link, K2]
  have hnn := Lib.hid K1.nexts
  clear hI0 hR0 K1 K2
  have hlk := Lib.hid (hz.out.link_in m j hm hjm hi'.out hj'.out w1 (Below.refl _ _))
  have hnx := Lib.hid (hz.out.next_in m hm hi'.out)
  go_wp2_with fail
  refine hlk.out.mono ?_
  rintro e w2 ⟨a2, n2, c2, a3, n3, c3, rfl, _, _, hb2⟩
  clear hlk
  go_wp2_with fail
  refine (hnx.out w2 hb2).mono ?_
  rintro e w3 ⟨rfl, hb3⟩
  clear hnx
  generalize mv (mk xs) m 1 = A at hrr hnn hA hA2 ⊢
  have ta : ((A : Int) != (A : Int)) = false := by simp
  have hba : Hid (Below w1.heap.size w1 (w3.alloc (.cells #[.string bLink, .int .u16 (m : Int), .int .u16 (j : Int), .int .i64 0, .string bLink, .int .u16 (m : Int), .int .u16 (A : Int), .int .i64 0] 41))) := hb3.alloc hb3.size _
  have hrun := hz.out.run (some ⟨w3.heap.size, 0, none⟩) 2 2 [⟨bLink, m, j, 0⟩, ⟨bLink, m, A, 0⟩] (by omega) (by
    intro p hp
    simp only [List.mem_cons, List.not_mem_nil, or_false] at hp
    rcases hp with rfl | rfl <;> simp <;> omega) _ hba.out (rdo_two w3 ⟨bLink, m, j, 0⟩ ⟨bLink, m, A, 0⟩)
  rw [hrr.out, hnn.out] at hrun
  have hrun' := Lib.hid hrun
  have hb3' := Lib.hid hb3
  clear hrun hb3 hb2
  go_wp2_with fail
  refine hrun'.out.mono ?_
  rintro e w4 ⟨a4, n4, c4, a5, n5, c5, rfl, r4, r5, hb4⟩
  have e4 := r4.len
  simp only [List.length_cons, List.length_nil] at e4
  subst e4
  obtain ⟨b, of, rfl, hbl, hcell⟩ := r4.at (by omega)
  have d0 := hcell 0 (by omega)
  have d1 := hcell 1 (by omega)
  have d0' : w4.cell? ⟨b, of, none⟩ = some (.int .i64 (A : Int)) := d0
  have d1' : w4.cell? ⟨b, of + 1, none⟩ = some (.int .i64 (j : Int)) := d1
  have hle := r4.le
  have r5' := Lib.hid r5
  have B4 := Lib.hid (hb0.out.trans (hb4.mono hb0.out.size))
  have hz4 := Lib.hid (hz.out.below hb4 (Nat.le_refl _))
  clear hcell d0 d1 r4 r5 hb4 hrun' hba
  go_wp2_with fail
  refine (hz4.out.nexts w4 (Below.refl _ _)).mono ?_
  rintro e w5 ⟨a6, n6, c6, rfl, r6, hb5⟩
  have s1 := Lib.hid ((r5'.out.below hb5 (Nat.le_refl _)).same2 r6 rfl)
  have B5 := Lib.hid (B4.out.trans (hb5.mono B4.out.size))
  clear r6 hb5 d0' d1'
  go_wp2_with fail
  refine (s1.out w5 (Below.refl _ _)).mono ?_
  rintro e w6 ⟨rfl, hb6⟩
  go_wp2
  go_ret
  exact ⟨rfl, B5.out.trans (hb6.mono B5.out.size)⟩

set_option maxHeartbeats 1000000 in
theorem fnUnlinkLink_walk (a0 : Option Addr) (n0 c0 : Nat) (x0 : List Int) (w : World) (h0 : Rd .u8 w a0 n0 c0 x0) (f0 : ∀ x ∈ x0, (Lit.int .u8 x).wf = true) (s0 : c0 * 1 ≤ 140737488351232) (d0 : ∀ ad, a0 = some ad → ad.block < w.heap.size) :
    Calls Try.prog 5 #[.slice a0 n0 c0] w fun e w' => e = .returned (.bool true) ∧ Below w.heap.size w w' := by
  have hnot : ∀ (x : Bool) (w : World), (Op.unary .not (.bool x)).run Try.prog w = .ok (.bool (!x)) w := fun _ _ => rfl
  have l := h0.le
  have hB := Lib.hid (bytes_of_wf f0)
  have hd0 := Lib.hid d0
  have h0' := Lib.hid h0
  clear f0 d0 h0
  go_enter Try.func5, Try.ntmps5
  go_wp2_with fail
  refine (large_calls a0 n0 c0 w (by omega)).mono ?_
  rintro e w' ⟨rfl, rfl⟩
  by_cases hbig : 1048576 < n0
  · have tb : decide (1048576 < n0) = true := by simpa using hbig
    go_wp2
    go_ret
    exact ⟨rfl, Below.refl _ _⟩
  have tb : decide (1048576 < n0) = false := by simpa using hbig
  clear hbig
  go_wp2_with fail
  refine (drawUnlink_calls w a0 n0 c0 x0 h0'.out hB.out hd0.out).mono ?_
  clear h0' hB hd0 tb
  rintro e w1 ⟨a1, n1, c1, xs, m, z, rfl, hz0, hm, hzz, hbw⟩
  have hz := Lib.hid hz0
  have hb0 := Lib.hid hbw
  have ht := hz0.t21
  clear hz0 hbw
  go_wp2_with fail
  refine (hz.out.fits m hm).mono ?_
  rintro e w' ⟨rfl, rfl⟩
  by_cases hi : m < tot xs
  case neg =>
    have tf : decide (m < tot xs) = false := by simpa using hi
    have ho := Lib.hid (show tot xs ≤ m by omega)
    rw [tf]
    clear hi tf
    go_wp2_with fail
    refine (hz.out.unlink_out m z hm ho.out w1 (Below.refl _ _)).mono ?_
    rintro e w9 ⟨a9, n9, c9, a8, n8, c8, rfl, r9, r8, hb⟩
    have e9 := r9.len
    have e8 := r8.len
    simp only [List.length_nil] at e9 e8
    subst e9
    subst e8
    clear r9 r8
    go_wp2
    go_ret
    exact ⟨rfl, hb0.out.trans (hb.mono hb0.out.size)⟩
  have tf : decide (m < tot xs) = true := by simpa using hi
  rw [tf]
  have hi' := Lib.hid hi
  clear hi tf
  go_wp2_with fail
  refine (hz.out.len_in m hm hi'.out w1 (Below.refl _ _)).mono ?_
  rintro e w2 ⟨rfl, hb2⟩
  have hL : Hid ((from' (mk xs) m).length = (from' (mk xs) m).length) := rfl
  have hLp := from_mk_pos xs hi'.out
  have hL21 := from_mk_le xs hi'.out
  generalize hLe : (from' (mk xs) m).length = N0 at hL hLp hL21 ⊢
  have hLe' := Lib.hid hLe
  clear hLe hL
  have tl : ¬ ((N0 : Int) < 1) := by omega
  have tl2 : ¬ (N0 < 1) := by omega
  by_cases hneg : z < 0
  case pos =>
    go_wp2_with fail
    refine (hz.out.unlink_none m 0 hm hi'.out (by omega) w2 hb2).mono ?_
    rintro e w3 ⟨a2, n2, c2, a3, n3, c3, rfl, r2, _, hb3⟩
    have r2' := Lib.hid r2
    have hl2 := r2.len
    rw [nats_length, hLe'.out] at hl2
    subst hl2
    have hz3 := Lib.hid (hz.out.below hb3 (Nat.le_refl _))
    have B3 := Lib.hid (hb0.out.trans (hb3.mono hb0.out.size))
    clear r2 hb3 hb2 hz hb0
    go_wp2_with fail
    refine (hz3.out.do_in m hm hi'.out w3 (Below.refl _ _)).mono ?_
    rintro e w4 ⟨a4, n4, c4, rfl, r4, hb4⟩
    have s1 := Lib.hid ((r2'.out.below hb4 (Nat.le_refl _)).same2 r4 rfl)
    have B4 := Lib.hid (B3.out.trans (hb4.mono B3.out.size))
    clear r4 hb4
    go_wp2_with fail
    refine (s1.out w4 (Below.refl _ _)).mono ?_
    rintro e w5 ⟨rfl, hb5⟩
    have tp : decide (0 < N0) = true := by simpa using hLp
    go_wp2
    go_ret
    exact ⟨by simp, B4.out.trans (hb5.mono B4.out.size)⟩
  obtain ⟨Z, rfl⟩ := Int.eq_ofNat_of_zero_le (show 0 ≤ z by omega)
  by_cases hmod : Z % N0 = 0
  case pos =>
    have hk2 : (Z : Int) % (N0 : Int) = 0 := by omega
    have hmod' := Lib.hid hmod
    clear hmod
    go_wp2_with fail
    refine (hz.out.unlink_none m 0 hm hi'.out (by omega) w2 hb2).mono ?_
    rintro e w3 ⟨a2, n2, c2, a3, n3, c3, rfl, r2, _, hb3⟩
    have r2' := Lib.hid r2
    have hl2 := r2.len
    rw [nats_length, hLe'.out] at hl2
    subst hl2
    have hz3 := Lib.hid (hz.out.below hb3 (Nat.le_refl _))
    have B3 := Lib.hid (hb0.out.trans (hb3.mono hb0.out.size))
    clear r2 hb3 hb2 hz hb0
    go_wp2_with fail
    refine (hz3.out.do_in m hm hi'.out w3 (Below.refl _ _)).mono ?_
    rintro e w4 ⟨a4, n4, c4, rfl, r4, hb4⟩
    have s1 := Lib.hid ((r2'.out.below hb4 (Nat.le_refl _)).same2 r4 rfl)
    have B4 := Lib.hid (B3.out.trans (hb4.mono B3.out.size))
    clear r4 hb4
    go_wp2_with fail
    refine (s1.out w4 (Below.refl _ _)).mono ?_
    rintro e w5 ⟨rfl, hb5⟩
    have tp : decide (0 < N0) = true := by simpa using hLp
    go_wp2
    go_ret
    exact ⟨by simp, B4.out.trans (hb5.mono B4.out.size)⟩
  obtain ⟨k, hkk⟩ : ∃ k, Z % N0 = k := ⟨_, rfl⟩
  have hkl := Nat.mod_lt Z hLp
  rw [hkk] at hkl hmod
  have hk2 : (Z : Int) % (N0 : Int) = (k : Int) := by omega
  have tk : ((k : Int) == 0) = false := by simpa using hmod
  have hZp : 0 < Z := by
    rcases Nat.eq_zero_or_pos Z with q | q
    · rw [q, Nat.zero_mod] at hkk; omega
    · exact q
  have hzz2 : Z ≤ 1000000 := by omega
  have hkk' := Lib.hid hkk
  clear hkk
  obtain ⟨nx, pv, hI0, hR0⟩ := rep_mk xs
  have hA := mv_mk_lt xs hi'.out 1
  have hJ := mv_mk_lt xs hi'.out ((Z : Int) + 1)
  have hA2 : mv (mk xs) m 1 ≤ 65535 := by omega
  obtain ⟨K1, _⟩ := link_back hI0 hR0 hi'.out hJ
  have hue : unlink (mk xs) m Z = Rm.link (mk xs) m (mv (mk xs) m ((Z : Int) + 1)) := by
    unfold unlink
    rw [if_neg (by rw [hLe'.out, hkk'.out]; exact hmod)]
  rw [← hue] at K1
  have hul := hR0.unlink_eq hI0 hi'.out Z (by rw [hLe'.out, hkk'.out]; exact hmod)
  rw [← hue, hLe'.out, hkk'.out] at hul
  have hRU := hR0.unlinked hI0 hi'.out Z
  obtain ⟨m0, em, pm, _⟩ := (hR0.from_ring hi'.out).cons
  have hLm : m0.length + 1 = N0 := by rw [← hLe'.out, em]; rfl
  have F1 : from' (unlink (mk xs) m Z) m = m :: m0.drop k := by
    have : m :: (from' (mk xs) m).drop (k + 1) ∈ unlink (mk xs) m Z := by rw [hul]; simp
    rw [hRU.from_of_mem this, em]; rfl
  have F2 : from' (unlink (mk xs) m Z) (mv (mk xs) m 1) = m0.take k := by
    have e1 : ((from' (mk xs) m).take (k + 1)).drop 1 = m0.take k := by rw [em]; simp
    rw [← hR0.next hI0 hi'.out]
    cases m0 with
    | nil => simp at hLm; omega
    | cons y m0 =>
      have hy : y = nx m := pm.1
      obtain ⟨k', rfl⟩ : ∃ k', k = k' + 1 := ⟨k - 1, by omega⟩
      have : nx m :: m0.take k' ∈ unlink (mk xs) m Z := by rw [hul, e1, hy]; simp
      rw [hRU.from_of_mem this, hy]; rfl
  have G1 : Hid (nats (from' (mk xs) m) = (m : Int) :: (nats (m0.take k) ++ nats (m0.drop k))) := by
    show _ = _
    rw [em, ← nats_append, List.take_append_drop]; rfl
  have hrr : Hid (runR (tot xs) (mk xs) [⟨bUnlink, m, 0, (Z : Int)⟩, ⟨bLink, m, mv (mk xs) m 1, 0⟩] = ([((mv (mk xs) m 1 : Nat) : Int), ((mv (unlink (mk xs) m Z) m 1 : Nat) : Int)], Rm.link (unlink (mk xs) m Z) m (mv (mk xs) m 1))) := by
    show _ = _
    rw [runR_two ⟨hi'.out, by have := hi'.out; show 0 < tot xs; omega⟩ ⟨hi'.out, hA⟩, st_unlink _ _ _ _ hZp, res_unlink _ _ _ _ (by omega), res_link, st_link]
  have hnn := Lib.hid K1.nexts
  have hun := hz.out.unlink_in m Z hm hi'.out hZp hzz2 w2 hb2
  rw [F1, F2] at hun
  have hun' := Lib.hid hun
  clear hI0 hR0 K1 hue hul hRU em pm F1 F2 hun
  go_wp2_with fail
  refine hun'.out.mono ?_
  rintro e w3 ⟨a2, n2, c2, a3, n3, c3, rfl, r2, r3, hb3⟩
  have l2 := r2.len
  have l3 := r3.len
  rw [nats_length] at l2 l3
  simp only [List.length_cons, List.length_drop] at l2
  rw [List.length_take] at l3
  have l3' : n3 = k := by omega
  subst l3'
  have l2' : n2 + n3 = N0 := by omega
  have tl3 : (((n2 : Int) + (n3 : Int)) != (N0 : Int)) = false := by simp; omega
  have tl4 : ((n3 : Int) != (n3 : Int)) = false := by simp
  have p2 : 1 ≤ n2 := by omega
  have q2 : n2 ≤ 21 := by omega
  have hle2 := r2.le
  have r2' := Lib.hid r2
  have r3' := Lib.hid r3
  have hz3 := Lib.hid (hz.out.below hb3 (Nat.le_refl _))
  have B3 := Lib.hid (hb0.out.trans (hb3.mono hb0.out.size))
  obtain ⟨b2, o2, rfl, _, _⟩ := r2.at (by omega)
  have ta : ¬ (((mv (mk xs) m 1 : Nat) : Int) < 0) := by omega
  clear r2 r3 hb3 hb2 hz hb0 hun' l2 l3
  have l2h := Lib.hid l2'
  have hLmh := Lib.hid hLm
  clear l2' hLm
  -- all := append(append([]int{at}, second...), first[1:]...)
  have hcut := fun u => run_cut_low (P := Try.prog) u 29 3 (some ⟨b2, o2, none⟩) n2 c2 1 .i64 Try.underlying29 sizeIntR 1 rfl (by omega)
  have hwr : IntKind.i64.wrap (m : Int) = (m : Int) := IntWalk.i64_in _ (by omega)
  have hb0a : Below w3.heap.size w3 (w3.drew.alloc (.cells #[.int .i64 (m : Int)] 3)) := (below_drewN (Below.refl w3.heap.size w3) 1).alloc (Nat.le_refl _) _
  have o1 : Own 3 w3.heap.size (w3.drew.alloc (.cells #[.int .i64 (m : Int)] 3)) (.slice (some ⟨w3.heap.size, 0, none⟩) 1 1) [.int .i64 (m : Int)] := Own.lit 3 w3.heap.size w3.drew [.int .i64 (m : Int)] (Nat.le_refl _) (by unfold maxLen; simp)
  have r5a : Rd .i64 (w3.drew.alloc (.cells #[.int .i64 (m : Int)] 3)) a3 n3 c3 (nats (m0.take n3)) := r3'.out.below hb0a (Nat.le_refl _)
  have r4a : Hid (∀ u, Below w3.heap.size w3 u → Rd .i64 u (cutA (some ⟨b2, o2, none⟩) c2 1) (n2 - 1) (c2 - 1) (nats (m0.drop n3))) := by
    intro u hu
    have := (r2'.out.below hu (Nat.le_refl _)).cut (lo := 1) (hi := n2) (by omega) (Nat.le_refl _)
    rwa [List.take_of_length_le (by rw [r2'.out.len]; exact Nat.le_refl _)] at this
  have hm1 : ((nats (m0.take n3)).map (Value.int .i64)).length = n3 := by rw [List.length_map]; exact r3'.out.len
  have hm2 : ((nats (m0.drop n3)).map (Value.int .i64)).length = n2 - 1 := by rw [List.length_map]; exact (r4a.out w3 (Below.refl _ _)).len
  have hs0 := hb0a.size
  have q3 : n3 ≤ 21 := by omega
  go_wp2
  go_region_law (first
    | (refine step_join rfl (.tmp 110) (.tmp 111) 29 3 rfl Try.underlying29 infoIntR rfl w3.heap.size _ [.int .i64 (m : Int)] ((nats (m0.take n3)).map (Value.int .i64)) (ints_one .i64 _) rfl _ _ _ rfl hm1 r5a.2.2.2.1 r5a.cells o1 (by simp only [List.length_cons, List.length_nil, maxLen]; omega) (by simp only [List.length_cons, List.length_nil]; omega) hs0 ?_; intro v1 w5 o3 pu1; have hb5 : Below w3.heap.size w3 w5 := hb0a.trans (pu1.below hs0 (fun k hk => (o1.lt hk).1)); have r4b := r4a.out w5 hb5; have l2b : ([Value.int .i64 (m : Int)] ++ (nats (m0.take n3)).map (Value.int .i64)).length = 1 + n3 := by rw [List.length_append, hm1]; rfl)
    | (refine step_join rfl (.tmp 112) (.tmp 114) 29 3 rfl Try.underlying29 infoIntR rfl w3.heap.size _ _ ((nats (m0.drop n3)).map (Value.int .i64)) (ints_one .i64 _) rfl _ _ _ rfl hm2 r4b.2.2.2.1 r4b.cells o3 (by rw [l2b]; unfold maxLen; omega) (by rw [l2b]; omega) hb5.size ?_; intro v2 w6 o5 pu2))
  have hb6 : Below w3.heap.size w3 w6 := hb5.trans (pu2.below hb5.size (fun k hk => (o3.lt hk).1))
  have e6 : ((m : Int) :: (nats (m0.take n3) ++ nats (m0.drop n3))).map (Value.int .i64) = [Value.int .i64 (m : Int)] ++ (nats (m0.take n3)).map (Value.int .i64) ++ (nats (m0.drop n3)).map (Value.int .i64) := by simp
  rw [← e6] at o5
  obtain ⟨a7, n7, c7, rfl, r7⟩ := o5.rd
  have r7' := Lib.hid r7
  have hz6 := Lib.hid (hz3.out.below hb6 (Nat.le_refl _))
  have B6 := Lib.hid (B3.out.trans (hb6.mono B3.out.size))
  clear e6 o5 pu2 o3 pu1 hb5 hb6 r4b l2b r7 o1 r5a hb0a hs0 hm1 hm2 hcut hwr hz3 B3
  generalize mv (mk xs) m 1 = A at hrr hnn hA hA2 ta ⊢
  have hba : Hid (Below w6.heap.size w6 (w6.alloc (.cells #[.string bUnlink, .int .u16 (m : Int), .int .u16 0, .int .i64 (Z : Int), .string bLink, .int .u16 (m : Int), .int .u16 (A : Int), .int .i64 0] 41))) := (Below.refl _ _).alloc (Nat.le_refl _) _
  have hrun := hz6.out.run (some ⟨w6.heap.size, 0, none⟩) 2 2 [⟨bUnlink, m, 0, (Z : Int)⟩, ⟨bLink, m, A, 0⟩] (by omega) (by
    intro p hp
    simp only [List.mem_cons, List.not_mem_nil, or_false] at hp
    rcases hp with rfl | rfl <;> simp <;> omega) _ hba.out (rdo_two w6 ⟨bUnlink, m, 0, (Z : Int)⟩ ⟨bLink, m, A, 0⟩)
  rw [hrr.out, hnn.out] at hrun
  have hrun' := Lib.hid hrun
  clear hrun
  go_wp2_with fail
  refine hrun'.out.mono ?_
  rintro e w7 ⟨a4, n4, c4, a5, n5, c5, rfl, _, r5, hb7⟩
  have r5' := Lib.hid r5
  have r7a := Lib.hid (r7'.out.below hb7 (Nat.le_refl _))
  have B7 := Lib.hid (B6.out.trans (hb7.mono B6.out.size))
  have hz7 := Lib.hid (hz6.out.below hb7 (Nat.le_refl _))
  clear r5 hb7 hrun' hba
  go_wp2_with fail
  refine (hz7.out.do_in m hm hi'.out w7 (Below.refl _ _)).mono ?_
  rintro e w8 ⟨a8, n8, c8, rfl, r8, hb8⟩
  have s1 := Lib.hid ((r7a.out.below hb8 (Nat.le_refl _)).same2 r8 G1.out.symm)
  have r5b := Lib.hid (r5'.out.below hb8 (Nat.le_refl _))
  have B8 := Lib.hid (B7.out.trans (hb8.mono B7.out.size))
  have hz8 := Lib.hid (hz7.out.below hb8 (Nat.le_refl _))
  clear r8 hb8
  go_wp2_with fail
  refine (s1.out w8 (Below.refl _ _)).mono ?_
  rintro e w9 ⟨rfl, hb9⟩
  go_wp2_with fail
  refine (hz8.out.nexts w9 hb9).mono ?_
  rintro e w10 ⟨a10, n10, c10, rfl, r10, hb10⟩
  have s2 := Lib.hid ((r5b.out.below hb10 (Nat.le_refl _)).same2 r10 rfl)
  have B10 := Lib.hid (B8.out.trans (hb10.mono B8.out.size))
  clear r10 hb10 hb9
  go_wp2_with fail
  refine (s2.out w10 (Below.refl _ _)).mono ?_
  rintro e w11 ⟨rfl, hb11⟩
  go_wp2
  go_ret
  exact ⟨by simp, B10.out.trans (hb11.mono B10.out.size)⟩

end Go.Proofs.Ytbkclmkncenaeaa

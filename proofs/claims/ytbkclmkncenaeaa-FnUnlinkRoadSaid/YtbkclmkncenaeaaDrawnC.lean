/- The drawn laws FnUnlinkRoad and FnLinkLen, walked. Written by gendrawnc.py. -/
import Derived.Test.YtbkclmkncenaeaaUseL
import Derived.Test.YtbkclmkncenaeaaFind
import Derived.Deep.RegionLaw
namespace Go.Proofs.Ytbkclmkncenaeaa
open Go.RowKit
open Go.Proofs.Ytbkclmkncenaeaa.Rm
set_option linter.unusedVariables false

set_option maxHeartbeats 1000000 in
theorem fnUnlinkRoad_walk (a0 : Option Addr) (n0 c0 : Nat) (x0 : List Int) (w : World) (h0 : Rd .u8 w a0 n0 c0 x0) (f0 : ∀ x ∈ x0, (Lit.int .u8 x).wf = true) (s0 : c0 * 1 ≤ 140737488351232) (d0 : ∀ ad, a0 = some ad → ad.block < w.heap.size) :
    Calls Try.prog 3 #[.slice a0 n0 c0] w fun e w' => e = .returned (.bool true) ∧ Below w.heap.size w w' := by
  have hnot : ∀ (x : Bool) (w : World), (Op.unary .not (.bool x)).run Try.prog w = .ok (.bool (!x)) w := fun _ _ => rfl
  have l := h0.le
  have hB := Lib.hid (bytes_of_wf f0)
  have hd0 := Lib.hid d0
  have h0' := Lib.hid h0
  clear f0 d0 h0
  go_enter Try.func3, Try.ntmps3
  go_wp2_with fail
  refine (large_calls a0 n0 c0 w (by omega)).mono ?_
  rintro e w' ⟨rfl, rfl⟩
  by_cases hbig : 1048576 < n0
  · have tb : decide (1048576 < n0) = true := by simpa using hbig
    go_wp2
    go_ret
    exact ⟨rfl, Below.refl _ _⟩
  have tb : decide (1048576 < n0) = false := by simpa using hbig
  clear hbig
  go_wp2_with fail
  refine (drawUnlink_calls w a0 n0 c0 x0 h0'.out hB.out hd0.out).mono ?_
  clear h0' hB hd0 tb
  rintro e w1 ⟨a1, n1, c1, xs, m, z, rfl, hz0, hm, hzz, hbw⟩
  have hz := Lib.hid hz0
  have hb0 := Lib.hid hbw
  have ht := hz0.t21
  clear hz0 hbw
  go_wp2_with fail
  refine (hz.out.fits m hm).mono ?_
  rintro e w' ⟨rfl, rfl⟩
  by_cases hi : m < tot xs
  case neg =>
    have tf : decide (m < tot xs) = false := by simpa using hi
    have ho := Lib.hid (show tot xs ≤ m by omega)
    rw [tf]
    clear hi tf
    go_wp2_with fail
    refine (hz.out.unlink_out m z hm ho.out w1 (Below.refl _ _)).mono ?_
    rintro e w2 ⟨a2, n2, c2, a3, n3, c3, rfl, _, _, hb⟩
    go_wp2
    go_ret
    exact ⟨rfl, hb0.out.trans (hb.mono hb0.out.size)⟩
  have tf : decide (m < tot xs) = true := by simpa using hi
  rw [tf]
  have hi' := Lib.hid hi
  clear hi tf
  go_wp2_with fail
  refine (hz.out.len_in m hm hi'.out w1 (Below.refl _ _)).mono ?_
  rintro e w2 ⟨rfl, hb2⟩
  have hL : Hid ((from' (mk xs) m).length = (from' (mk xs) m).length) := rfl
  have hLp := from_mk_pos xs hi'.out
  have hL21 := from_mk_le xs hi'.out
  generalize hLe : (from' (mk xs) m).length = N0 at hL hLp hL21 ⊢
  have hLe' := Lib.hid hLe
  clear hLe hL
  have tl : ¬ ((N0 : Int) < 1) := by omega
  have tl2 : ¬ (N0 < 1) := by omega
  by_cases hneg : z < 0
  · go_wp2
    go_ret
    exact ⟨rfl, hb0.out.trans (hb2.mono hb0.out.size)⟩
  obtain ⟨Z, rfl⟩ := Int.eq_ofNat_of_zero_le (show 0 ≤ z by omega)
  by_cases hmod : Z % N0 = 0
  · have hk2 : (Z : Int) % (N0 : Int) = 0 := by omega
    have hmod' := Lib.hid hmod
    clear hmod
    go_wp2
    go_ret
    exact ⟨rfl, hb0.out.trans (hb2.mono hb0.out.size)⟩
  obtain ⟨k, hkk⟩ : ∃ k, Z % N0 = k := ⟨_, rfl⟩
  have hkl := Nat.mod_lt Z hLp
  rw [hkk] at hkl hmod
  have hk2 : (Z : Int) % (N0 : Int) = (k : Int) := by omega
  have tk : ((k : Int) == 0) = false := by simpa using hmod
  have hZp : 0 < Z := by
    rcases Nat.eq_zero_or_pos Z with q | q
    · rw [q, Nat.zero_mod] at hkk; omega
    · exact q
  have hzz2 : Z ≤ 1000000 := by omega
  have hkk' := Lib.hid hkk
  clear hkk
  go_wp2_with fail
  refine (hz.out.unlink_in m Z hm hi'.out hZp hzz2 w2 hb2).mono ?_
  rintro e w3 ⟨a2, n2, c2, a3, n3, c3, rfl, hr2, hr3, hb3⟩
  have hz3 := Lib.hid (hz.out.below hb3 (Nat.le_refl _))
  have B3 := Lib.hid (hb0.out.trans (hb3.mono hb0.out.size))
  have hr2' := Lib.hid hr2
  have hr3' := Lib.hid hr3
  clear hr2 hr3 hb3 hb2 hb0 hz
  have hmvk : Hid (mv (mk xs) m ((Z : Int) + 1) = mv (mk xs) m ((k : Int) + 1)) := by
    apply mv_mod
    rw [hLe'.out, Int.add_emod, hk2]
    conv => rhs; rw [Int.add_emod]
    rw [Int.emod_eq_of_lt (a := (k : Int)) (by omega) (by omega)]
  have hue : Hid (unlink (mk xs) m Z = Rm.link (mk xs) m (mv (mk xs) m ((k : Int) + 1))) := by
    show _ = _
    unfold unlink
    rw [if_neg (by rw [hLe'.out, hkk'.out]; exact hmod), hmvk.out]
  have hJ := mv_mk_lt xs hi'.out ((k : Int) + 1)
  have hA := mv_mk_lt xs hi'.out 1
  rw [hue.out] at hr2' hr3'
  have hmo := Lib.hid (hz3.out.move_in m ((k : Int) + 1) hm (by omega) hi'.out)
  generalize mv (mk xs) m ((k : Int) + 1) = J at hr2' hr3' hJ hmo
  have hlk := Lib.hid (hz3.out.link_in m J hm (by omega) hi'.out hJ)
  generalize mv (mk xs) m 1 = A at hr3' hlk hA ⊢
  go_wp2_with fail
  refine (hmo.out w3 (Below.refl _ _)).mono ?_
  rintro e w4 ⟨rfl, hb4⟩
  go_wp2_with fail
  refine (hlk.out w4 hb4).mono ?_
  rintro e w5 ⟨a4, n4, c4, a5, n5, c5, rfl, hr4, hr5, hb5⟩
  have s1 := Lib.hid ((hr2'.out.below hb5 (Nat.le_refl _)).same2 hr4 rfl)
  have s2 := Lib.hid ((hr3'.out.below hb5 (Nat.le_refl _)).same2 hr5 rfl)
  have B5 := Lib.hid (B3.out.trans (hb5.mono B3.out.size))
  clear hr4 hr5 hb5 hb4
  go_wp2_with fail
  refine (s1.out w5 (Below.refl _ _)).mono ?_
  rintro e w6 ⟨rfl, hb6⟩
  go_wp2_with fail
  refine (s2.out w6 hb6).mono ?_
  rintro e w7 ⟨rfl, hb7⟩
  go_wp2
  go_ret
  exact ⟨rfl, B5.out.trans (hb7.mono B5.out.size)⟩

set_option maxHeartbeats 1000000 in
theorem fnLinkLen_walk (a0 : Option Addr) (n0 c0 : Nat) (x0 : List Int) (w : World) (h0 : Rd .u8 w a0 n0 c0 x0) (f0 : ∀ x ∈ x0, (Lit.int .u8 x).wf = true) (s0 : c0 * 1 ≤ 140737488351232) (d0 : ∀ ad, a0 = some ad → ad.block < w.heap.size) :
    Calls Try.prog 10 #[.slice a0 n0 c0] w fun e w' => e = .returned (.bool true) ∧ Below w.heap.size w w' := by
  have hnot : ∀ (x : Bool) (w : World), (Op.unary .not (.bool x)).run Try.prog w = .ok (.bool (!x)) w := fun _ _ => rfl
  have l := h0.le
  have hB := Lib.hid (bytes_of_wf f0)
  have hd0 := Lib.hid d0
  have h0' := Lib.hid h0
  clear f0 d0 h0
  go_enter Try.func10, Try.ntmps10
  go_wp2_with fail
  refine (large_calls a0 n0 c0 w (by omega)).mono ?_
  rintro e w' ⟨rfl, rfl⟩
  by_cases hbig : 1048576 < n0
  · have tb : decide (1048576 < n0) = true := by simpa using hbig
    go_wp2
    go_ret
    exact ⟨rfl, Below.refl _ _⟩
  have tb : decide (1048576 < n0) = false := by simpa using hbig
  clear hbig
  go_wp2_with fail
  refine (drawLink_calls w a0 n0 c0 x0 h0'.out hB.out hd0.out).mono ?_
  clear h0' hB hd0 tb
  rintro e w1 ⟨a1, n1, c1, xs, m, j, rfl, hz0, hm, hjm, hbw⟩
  have hz := Lib.hid hz0
  have hb0 := Lib.hid hbw
  have ht := hz0.t21
  clear hz0 hbw
  have lo := Lib.hid (fun q (hq : q ≤ 65535) (h : tot xs ≤ q) => hz.out.len_out q hq h)
  go_wp2_with fail
  refine (hz.out.fits m hm).mono ?_
  rintro e w' ⟨rfl, rfl⟩
  by_cases hi : m < tot xs
  case neg =>
    have tf : decide (m < tot xs) = false := by simpa using hi
    rw [tf]
    have ho := Lib.hid (show tot xs ≤ m by omega)
    clear hi tf
    go_wp2_with fail
    refine (lo.out m hm ho.out w1 (Below.refl _ _)).mono ?_
    rintro e w2 ⟨rfl, hb⟩
    go_wp2
    go_ret
    exact ⟨rfl, hb0.out.trans (hb.mono hb0.out.size)⟩
  have tf : decide (m < tot xs) = true := by simpa using hi
  rw [tf]
  have hi' := Lib.hid hi
  clear hi tf
  go_wp2_with fail
  refine (hz.out.fits j hjm).mono ?_
  rintro e w' ⟨rfl, rfl⟩
  by_cases hj : j < tot xs
  case neg =>
    have tf : decide (j < tot xs) = false := by simpa using hj
    rw [tf]
    have ho := Lib.hid (show tot xs ≤ j by omega)
    clear hj tf
    go_wp2_with fail
    refine (hz.out.len_in m hm hi'.out w1 (Below.refl _ _)).mono ?_
    rintro e w2 ⟨rfl, hb2⟩
    have tn : ((((from' (mk xs) m).length : Nat) : Int) == -3) = false := by simp
    go_wp2_with fail
    refine (lo.out j hjm ho.out w2 hb2).mono ?_
    rintro e w3 ⟨rfl, hb⟩
    go_wp2
    go_ret
    exact ⟨rfl, hb0.out.trans (hb.mono hb0.out.size)⟩
  have tf : decide (j < tot xs) = true := by simpa using hj
  rw [tf]
  have hj' := Lib.hid hj
  clear hj tf lo
  go_wp2_with fail
  refine (hz.out.link_in m j hm hjm hi'.out hj'.out w1 (Below.refl _ _)).mono ?_
  rintro e w2 ⟨a2, n2, c2, a3, n3, c3, rfl, hr2, hr3, hb2⟩
  have hr2' := Lib.hid hr2
  have hr3' := Lib.hid hr3
  have hz2 := Lib.hid (hz.out.below hb2 (Nat.le_refl _))
  have B2 := Lib.hid (hb0.out.trans (hb2.mono hb0.out.size))
  clear hr2 hr3 hb2 hb0 hz
  go_wp2_with fail
  refine (hz2.out.do_in m hm hi'.out w2 (Below.refl _ _)).mono ?_
  rintro e w3 ⟨a4, n4, c4, rfl, hr4, hb3⟩
  have hr4' := Lib.hid hr4
  clear hr4
  have hdj := Lib.hid (hz2.out.below hb3 (Nat.le_refl _))
  go_wp2_with fail
  refine (hdj.out.do_in j hjm hj'.out w3 (Below.refl _ _)).mono ?_
  rintro e w4 ⟨a5, n5, c5, rfl, hr5, hb4⟩
  have r2 := Lib.hid ((hr2'.out.below hb3 (Nat.le_refl _)).below hb4 (Nat.le_refl _))
  have r3 := Lib.hid ((hr3'.out.below hb3 (Nat.le_refl _)).below hb4 (Nat.le_refl _))
  have r4 := Lib.hid (hr4'.out.below hb4 (Nat.le_refl _))
  have r5 := Lib.hid hr5
  have B4 := Lib.hid (B2.out.trans ((hb3.trans (hb4.mono hb3.size)).mono B2.out.size))
  clear hr5 hb4 hb3 hr4' hr3' hr2' hdj hz2 B2
  obtain ⟨nx, pv, hI0, hR0⟩ := rep_mk xs
  have hI := Lib.hid hI0
  have hR := Lib.hid hR0
  have hRL := Lib.hid (hR0.link hI0 hi'.out hj'.out)
  have hnx := Lib.hid (hR0.next hI0 hi'.out)
  clear hI0 hR0
  have e2 := r2.out.len
  have e3 := r3.out.len
  have e4 := r4.out.len
  have e5 := r5.out.len
  rw [nats_length] at e2 e3 e4 e5
  have p2 : 0 < n2 := by rw [← e2]; exact (hRL.out.from_ring hi'.out).pos
  have p4 : 0 < n4 := by rw [← e4]; exact from_mk_pos xs hi'.out
  have p5 : 0 < n5 := by rw [← e5]; exact from_mk_pos xs hj'.out
  have q4 : n4 ≤ 21 := by rw [← e4]; have := from_mk_le xs hi'.out; omega
  have q5 : n5 ≤ 21 := by rw [← e5]; have := from_mk_le xs hj'.out; omega
  have q2 : n2 ≤ 21 := by rw [← e2]; have := hRL.out.len_le hi'.out; omega
  have q3 : n3 ≤ 21 := by rw [← e3]; have := hRL.out.len_le (mv_mk_lt xs hi'.out 1); omega
  have l4 := r4.out.le
  have l2 := r2.out.le
  have e2' := Lib.hid e2
  have e3' := Lib.hid e3
  have e4' := Lib.hid e4
  have e5' := Lib.hid e5
  clear e2 e3 e4 e5
  have t2 : ((n2 : Int) == 0) = false := by simp; omega
  have t4 : ((n4 : Int) == 0) = false := by simp; omega
  have t5 : ((n5 : Int) == 0) = false := by simp; omega
  have hpl := place_calls a4 n4 c4 _ (j : Int) w4 r4.out
  obtain ⟨b4, o4, rfl, hb4l, _⟩ := r4.out.at p4
  by_cases hmem : j ∈ from' (mk xs) m
  case neg =>
    rw [placeI_out hmem] at hpl
    have hpl' := Lib.hid hpl
    obtain ⟨E1, E2⟩ := hR.out.link_out hI.out hi'.out hj'.out hmem
    rw [hnx.out] at E2
    have e23 : n3 = n2 := by rw [← e3'.out, ← e2'.out, E2]
    subst e23
    have E1' := Lib.hid E1
    clear hpl E1 E2 hmem
    go_wp2_with fail
    refine hpl'.out.mono ?_
    rintro e w' ⟨rfl, rfl⟩
    have hcut := fun u => run_cut_low (P := Try.prog) u 29 3 (some ⟨b4, o4, none⟩) n4 c4 1 .i64 Try.underlying29 sizeIntR 1 rfl (by omega)
    have hwr : IntKind.i64.wrap (m : Int) = (m : Int) := IntWalk.i64_in _ (by omega)
    have hb0a : Below w4.heap.size w4 (w4.drew.alloc (.cells #[.int .i64 (m : Int)] 3)) := (below_drewN (Below.refl w4.heap.size w4) 1).alloc (Nat.le_refl _) _
    have o1 : Own 3 w4.heap.size (w4.drew.alloc (.cells #[.int .i64 (m : Int)] 3)) (.slice (some ⟨w4.heap.size, 0, none⟩) 1 1) [.int .i64 (m : Int)] := Own.lit 3 w4.heap.size w4.drew [.int .i64 (m : Int)] (Nat.le_refl _) (by unfold maxLen; simp)
    have r5a : Rd .i64 (w4.drew.alloc (.cells #[.int .i64 (m : Int)] 3)) a5 n5 c5 (nats (from' (mk xs) j)) := r5.out.below hb0a (Nat.le_refl _)
    have r4a : Hid (∀ u, Below w4.heap.size w4 u → Rd .i64 u (cutA (some ⟨b4, o4, none⟩) c4 1) (n4 - 1) (c4 - 1) ((nats (from' (mk xs) m)).drop 1)) := by
      intro u hu
      have := (r4.out.below hu (Nat.le_refl _)).cut (lo := 1) (hi := n4) (by omega) (Nat.le_refl _)
      rwa [List.take_of_length_le (by rw [nats_length, e4'.out]; exact Nat.le_refl _)] at this
    have hm1 : ((nats (from' (mk xs) j)).map (Value.int .i64)).length = n5 := by rw [List.length_map]; exact r5.out.len
    have hm2 : (((nats (from' (mk xs) m)).drop 1).map (Value.int .i64)).length = n4 - 1 := by rw [List.length_map]; exact (r4a.out w4 (Below.refl _ _)).len
    have hs0 := hb0a.size
    go_wp2
    go_region_law (first
      | (refine step_join rfl (.tmp 75) (.tmp 76) 29 3 rfl Try.underlying29 infoIntR rfl w4.heap.size _ [.int .i64 (m : Int)] ((nats (from' (mk xs) j)).map (Value.int .i64)) (ints_one .i64 _) rfl _ _ _ rfl hm1 r5a.2.2.2.1 r5a.cells o1 (by simp only [List.length_cons, List.length_nil, maxLen]; omega) (by simp only [List.length_cons, List.length_nil]; omega) hs0 ?_; intro v1 w5 o2 pu1; have hb5 : Below w4.heap.size w4 w5 := hb0a.trans (pu1.below hs0 (fun k hk => (o1.lt hk).1)); have r4b := r4a.out w5 hb5; have l2b : ([Value.int .i64 (m : Int)] ++ (nats (from' (mk xs) j)).map (Value.int .i64)).length = 1 + n5 := by rw [List.length_append, hm1]; rfl)
      | (refine step_join rfl (.tmp 77) (.tmp 79) 29 3 rfl Try.underlying29 infoIntR rfl w4.heap.size _ _ (((nats (from' (mk xs) m)).drop 1).map (Value.int .i64)) (ints_one .i64 _) rfl _ _ _ rfl hm2 r4b.2.2.2.1 r4b.cells o2 (by rw [l2b]; unfold maxLen; omega) (by rw [l2b]; omega) hb5.size ?_; intro v2 w6 o3 pu2))
    have hb6 : Below w4.heap.size w4 w6 := hb5.trans (pu2.below hb5.size (fun k hk => (o2.lt hk).1))
    have e6 : (nats (m :: (from' (mk xs) j ++ (from' (mk xs) m).tail))).map (Value.int .i64) = [Value.int .i64 (m : Int)] ++ (nats (from' (mk xs) j)).map (Value.int .i64) ++ ((nats (from' (mk xs) m)).drop 1).map (Value.int .i64) := by simp [nats]
    rw [← e6] at o3
    obtain ⟨a7, n7, c7, rfl, r7⟩ := o3.rd
    have s1 := Lib.hid ((r2.out.below hb6 (Nat.le_refl _)).same2 r7 (by rw [E1'.out]))
    have B6 := Lib.hid (B4.out.trans (hb6.mono B4.out.size))
    clear e6 o3 pu2 o2 pu1 hb5 hb6 r4b l2b r7 o1 r5a hb0a hs0 hm1 hm2 hcut hwr
    go_wp2_with fail
    refine (s1.out w6 (Below.refl _ _)).mono ?_
    rintro e w7 ⟨rfl, hb7⟩
    go_wp2
    go_ret
    exact ⟨by simp, B6.out.trans (hb7.mono B6.out.size)⟩
  case pos =>
    rw [placeI_in hmem] at hpl
    have hpl' := Lib.hid hpl
    obtain ⟨E1, E2, E3⟩ := hR.out.link_in hI.out hi'.out hj'.out hmem
    obtain ⟨k1, k2⟩ := hR.out.cutK_pos hi'.out hmem
    rw [hnx.out] at E2 E3
    rw [e4'.out] at k2
    have hix : (from' (mk xs) m).idxOf j < n4 := by rw [← e4'.out]; exact List.idxOf_lt_length_iff.2 hmem
    have en2 : n2 = n4 - cutK (mk xs) m j + 1 := by rw [← e2'.out, E1]; simp [e4'.out]
    have E2' : Hid (cutK (mk xs) m j = 1 → n3 = n4) := fun q => by rw [← e3'.out, ← e4'.out, E2 q]
    have E3' := Lib.hid E3
    have hck : Hid (cutK (mk xs) m j = if m = j then n4 else (from' (mk xs) m).idxOf j) := by show _ = _; unfold cutK; rw [e4'.out]
    obtain ⟨b2, o2, rfl, hb2l, hcl⟩ := r2.out.at p2
    have hc2 := hcl 0 p2
    have hhead : (nats (from' (Rm.link (mk xs) m j) m)).getD 0 0 = (m : Int) := by rw [E1]; rfl
    rw [hhead] at hc2
    have hc2' : w4.cell? ⟨b2, o2, none⟩ = some (.int .i64 (m : Int)) := hc2
    clear hpl E1 E2 E3 hmem hcl hhead hc2
    generalize (from' (mk xs) m).idxOf j = I0 at hpl' hck hix
    generalize hKK : cutK (mk xs) m j = K at k1 k2 en2 E2' E3' hck
    have hKK' := Lib.hid hKK
    clear hKK
    have s2 : Hid (K ≠ 1 → ∀ u, Below w4.heap.size w4 u → Calls Try.prog 18 #[.slice a3 n3 c3, .slice (cutA (some ⟨b4, o4, none⟩) c4 1) (K - 1) (c4 - 1)] u fun e u' => e = .returned (.bool true) ∧ Below w4.heap.size w4 u') := by
      intro hk u hu
      have := r4.out.cut (lo := 1) (hi := K) (by omega) k2
      exact r3.out.same2 this (by rw [E3'.out hk, nats_drop, nats_take]) u hu
    have hcut := fun u => run_cut_both (P := Try.prog) u 29 3 (some ⟨b4, o4, none⟩) n4 c4 1 K .i64 .i64 Try.underlying29 sizeIntR 1 (K : Int) rfl rfl (by omega) (by omega)
    go_wp2_with fail
    refine hpl'.out.mono ?_
    rintro e w' ⟨rfl, rfl⟩
    have tz : ¬ ((I0 : Int) < 0) := by omega
    go_wp2_with fail
    refine hpl'.out.mono ?_
    rintro e w' ⟨rfl, rfl⟩
    clear tz
    by_cases hmj : m = j
    · rw [if_pos hmj] at hck
      have tmj : ((m : Int) == (j : Int)) = true := by simp [hmj]
      have hck2 := hck.out
      have hmj' := Lib.hid hmj
      clear hmj hck
      subst hck2
      obtain rfl : n2 = 1 := by omega
      clear en2
      by_cases hK1 : K = 1
      · have e34 := E2'.out hK1
        subst e34
        subst hK1
        go_wp2
        go_ret
        exact ⟨rfl, B4.out⟩
      · have tk1 : ((K : Int) == 1) = false := by simp; omega
        have tk2 : (1 : Int) < (K : Int) := by omega
        have s3 := Lib.hid (s2.out hK1)
        clear hK1
        go_wp2_with fail
        refine (s3.out w4 (Below.refl _ _)).mono ?_
        rintro e w7 ⟨rfl, hb7⟩
        go_wp2
        go_ret
        exact ⟨rfl, B4.out.trans (hb7.mono B4.out.size)⟩
    · rw [if_neg hmj] at hck
      have tmj : ((m : Int) == (j : Int)) = false := by simp; omega
      have hck2 := hck.out
      clear hmj hck
      subst hck2
      have ti : ((n2 : Int) == (n4 : Int) - (K : Int) + 1) = true := by simp; omega
      have en2' := Lib.hid en2
      clear en2
      by_cases hK1 : K = 1
      · have e34 := E2'.out hK1
        subst e34
        subst hK1
        go_wp2
        go_ret
        exact ⟨rfl, B4.out⟩
      · have tk1 : ((K : Int) == 1) = false := by simp; omega
        have tk2 : (1 : Int) < (K : Int) := by omega
        have s3 := Lib.hid (s2.out hK1)
        clear hK1
        go_wp2_with fail
        refine (s3.out w4 (Below.refl _ _)).mono ?_
        rintro e w7 ⟨rfl, hb7⟩
        go_wp2
        go_ret
        exact ⟨rfl, B4.out.trans (hb7.mono B4.out.size)⟩

end Go.Proofs.Ytbkclmkncenaeaa

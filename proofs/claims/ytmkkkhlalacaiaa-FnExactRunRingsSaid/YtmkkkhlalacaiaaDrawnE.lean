/- The drawn law FnScriptOnce, walked. Written by gendrawne.py. -/
import Derived.Test.YtmkkkhlalacaiaaDrawRun
import Derived.Test.YtmkkkhlalacaiaaRunL
namespace Go.Proofs.Ytmkkkhlalacaiaa
open Go.RowKit
open Go.Proofs.Ytmkkkhlalacaiaa.Rm
set_option linter.unusedVariables false
set_option linter.unusedSimpArgs false

/-- Rings stay rings through a call, and through a script. -/
theorem st_rep {N : Nat} {t : List (List Nat)} {p : OpV} (h : ∃ nx pv, Inv N nx pv ∧ Rep N nx t) (hi : p.at' < N) (hj : p.to < N) : ∃ nx pv, Inv N nx pv ∧ Rep N nx (stT t p) := by
  obtain ⟨nx, pv, h1, h2⟩ := h
  unfold stT
  split
  · exact ⟨nx, pv, h1, h2⟩
  split
  · exact ⟨nx, pv, h1, h2⟩
  split
  · exact ⟨nx, pv, h1, h2⟩
  split
  · exact ⟨nx, pv, h1, h2⟩
  split
  · exact ⟨_, _, h1.link hi hj, h2.link h1 hi hj⟩
  split
  · split
    · exact ⟨nx, pv, h1, h2⟩
    · exact ⟨_, _, h1.link hi (h2.mv_lt h1 hi _), h2.unlinked h1 hi _⟩
  · exact ⟨nx, pv, h1, h2⟩
theorem run_rep {N : Nat} {t : List (List Nat)} (h : ∃ nx pv, Inv N nx pv ∧ Rep N nx t) (ps : List OpV) : ∃ nx pv, Inv N nx pv ∧ Rep N nx (runR N t ps).2 := by
  have : ∀ (ps : List OpV) s, (∃ nx pv, Inv N nx pv ∧ Rep N nx s.2) → ∃ nx pv, Inv N nx pv ∧ Rep N nx (ps.foldl (runS N) s).2 := by
    intro ps
    induction ps with
    | nil => intro s hs; exact hs
    | cons p ps ih =>
      intro s hs
      rw [List.foldl_cons]
      apply ih
      unfold runS
      split
      · rename_i hc; exact st_rep hs hc.1 hc.2
      · exact hs
  exact this ps ([], t) h
theorem nexts_onto {N : Nat} {nx pv : Nat → Nat} {t : List (List Nat)} (hI : Inv N nx pv) (hR : Rep N nx t) {k : Nat} (hk : k < N) : (k : Int) ∈ nats (nextsT N t) := by
  unfold nats nextsT
  rw [List.mem_map]
  refine ⟨k, List.mem_map.2 ⟨pv k, List.mem_range.2 (hI.plt k hk), ?_⟩, rfl⟩
  rw [← hR.next hI (hI.plt k hk), hI.np k hk]
theorem nextsT_len (N : Nat) (t : List (List Nat)) : (nats (nextsT N t)).length = N := by simp [nats, nextsT]
theorem cnt_count {w : World} {a : Option Addr} {n c : Nat} {xs : List Int} (h : Rr w a n c (mk xs)) (hx : tot xs ≤ 1000000) : Calls Try.prog 10 #[.slice a n c] w fun e w' => e = .returned (.int .i64 (tot xs : Nat)) ∧ w = w' := by
  have := count_calls w a n c (mk xs) h (by rw [cnt_mk]; omega)
  rwa [cnt_mk] at this

set_option maxHeartbeats 1000000 in
theorem fnScriptOnce_walk (a0 : Option Addr) (n0 c0 : Nat) (x0 : List Int) (w : World) (h0 : Rd .u8 w a0 n0 c0 x0) (f0 : ∀ x ∈ x0, (Lit.int .u8 x).wf = true) (s0 : c0 * 1 ≤ 140737488351232) (d0 : ∀ ad, a0 = some ad → ad.block < w.heap.size) :
    Calls Try.prog 5 #[.slice a0 n0 c0] w fun e w' => e = .returned (.bool true) ∧ Below w.heap.size w w' := by
  have hnot : ∀ (x : Bool) (w : World), (Op.unary .not (.bool x)).run Try.prog w = .ok (.bool (!x)) w := fun _ _ => rfl
  have l := h0.le
  have hB := Lib.hid (bytes_of_wf f0)
  have hd0 := Lib.hid d0
  have h0' := Lib.hid h0
  clear f0 d0 h0
  go_enter Try.func5, Try.ntmps5
  go_wp2_with fail
  refine (large_calls a0 n0 c0 w (by omega)).mono ?_
  rintro e w' ⟨rfl, rfl⟩
  by_cases hbig : 1048576 < n0
  · have tb : decide (1048576 < n0) = true := by simpa using hbig
    go_wp2
    go_ret
    exact ⟨rfl, Below.refl _ _⟩
  have tb : decide (1048576 < n0) = false := by simpa using hbig
  clear hbig
  go_wp2_with fail
  refine (drawRun_calls w a0 n0 c0 x0 h0'.out hB.out hd0.out).mono ?_
  clear h0' hB hd0 tb
  rintro e w1 ⟨a1, n1, c1, xs, oa, on, oc, ps, rfl, hz0, hpo0, hon, hok0, hbw⟩
  have hz := Lib.hid hz0
  have hb0 := Lib.hid hbw
  have ht := hz0.t21
  have hpo := Lib.hid hpo0
  have hok := Lib.hid hok0
  clear hz0 hbw hpo0 hok0
  go_wp2_with fail
  refine (hz.out.made w1 (Below.refl _ _)).mono ?_
  rintro e w2 ⟨a2, n2, c2, rfl, hr2, hb2⟩
  have hft := fitsO_calls w2 a2 n2 c2 (mk xs) oa on oc ps hr2 (by rw [cnt_mk]; omega) (hpo.out.below hb2 (Nat.le_refl _)) (by omega) hok.out
  rw [cnt_mk] at hft
  have hft' := Lib.hid hft
  clear hft hr2
  go_wp2_with fail
  refine hft'.out.mono ?_
  rintro e w3 ⟨rfl, hb3⟩
  have B3 := Lib.hid (hb2.trans (hb3.mono hb2.size))
  clear hb2 hb3 hft'
  cases hfit : fitsO (tot xs) ps with
  | false =>
    clear hfit
    go_wp2_with fail
    refine (hz.out.nexts w3 B3.out).mono ?_
    rintro e w4 ⟨a4, n4, c4, rfl, r4, hb4⟩
    have l4 := r4.len
    rw [nextsT_len] at l4
    subst l4
    clear r4
    go_wp2_with fail
    refine (hz.out.made w4 hb4).mono ?_
    rintro e w5 ⟨a5, n5, c5, rfl, r5, hb5⟩
    have hcc := Lib.hid (cnt_count r5 (by omega))
    clear r5
    go_wp2_with fail
    refine hcc.out.mono ?_
    rintro e w6 ⟨rfl, rfl⟩
    go_wp2
    go_ret
    exact ⟨by simp, hb0.out.trans (hb5.mono hb0.out.size)⟩
  | true =>
    clear hfit
    go_wp2_with fail
    refine (implOps_calls w3 oa on oc ps (hpo.out.below B3.out (Nat.le_refl _)) (by omega)).mono ?_
    rintro e w4 ⟨a4, n4, c4, rfl, r4, hb4, _⟩
    have hl4 := r4.1
    have hl1 := hpo.out.1
    have hn4 : n4 ≤ 8 := by omega
    have B4 := B3.out.trans (hb4.mono B3.out.size)
    have hrun := Lib.hid (hz.out.run a4 n4 c4 ps (by omega) hok.out w4 B4 r4)
    obtain ⟨nx, pv, hI0, hR0⟩ := run_rep (N := tot xs) (by obtain ⟨nx, pv, h1, h2⟩ := rep_mk xs; exact ⟨nx, pv, h1, h2⟩) ps
    have hI := Lib.hid hI0
    have hR := Lib.hid hR0
    clear r4 hb4 B4 hI0 hR0 hl4 hl1
    go_wp2_with fail
    refine hrun.out.mono ?_
    rintro e w5 ⟨a5, n5, c5, a6, n6, c6, rfl, _, r6, hb5⟩
    have l6 := r6.len
    rw [nextsT_len] at l6
    have r6' := Lib.hid r6
    have hb5' := Lib.hid hb5
    have hle := r6.le
    clear r6 hb5 hrun
    generalize hNN : tot xs = N at *
    subst l6
    have hNN' := Lib.hid hNN
    clear hNN
    go_wp2
    go_loop [36] (fun v => ∃ k : Nat, k ≤ N ∧ v = .int .i64 (k : Int)) (fun v => N - (intOf v).toNat)
    case atStart => exact ⟨0, Nat.zero_le _, rfl⟩
    case round =>
      obtain ⟨k, hk, rfl⟩ := hrel
      by_cases hlt : k < N
      · have hp := place_calls a6 N c6 _ (k : Int) w5 r6'.out
        have hpn := placeI_nonneg (nats (nextsT N (runR N (mk xs) ps).2)) (k : Int)
        rw [show decide ((k : Int) ∈ nats (nextsT N (runR N (mk xs) ps).2)) = true from decide_eq_true (nexts_onto hI.out hR.out hlt)] at hpn
        have hpn2 : 0 ≤ placeI (nats (nextsT N (runR N (mk xs) ps).2)) (k : Int) := of_decide_eq_true hpn
        have hpr := (placeI_range (nats (nextsT N (runR N (mk xs) ps).2)) (k : Int)).2
        rw [nextsT_len] at hpr
        clear hpn
        generalize placeI (nats (nextsT N (runR N (mk xs) ps).2)) (k : Int) = q at hp hpn2 hpr
        have hp' := Lib.hid hp
        have hq : ¬ (q < 0) := by omega
        clear hp hpr
        go_wp2_with fail
        refine hp'.out.mono ?_
        rintro e w6 ⟨rfl, rfl⟩
        go_wp2
        go_round
        case rel => exact ⟨k + 1, hlt, by go_num⟩
        case measure => simp [intOf]; omega
      · obtain rfl : k = N := by omega
        have q : ¬ ((k : Int) < (k : Int)) := by omega
        go_wp2_with fail
        refine (hz.out.made w5 hb5'.out).mono ?_
        rintro e w7 ⟨a7, n7, c7, rfl, r7, hb7⟩
        have hcc := cnt_count r7 (by rw [hNN'.out]; omega)
        rw [hNN'.out] at hcc
        have hcc' := Lib.hid hcc
        clear r7 hcc
        go_wp2_with fail
        refine hcc'.out.mono ?_
        rintro e w8 ⟨rfl, rfl⟩
        go_wp2
        go_ret
        exact ⟨by simp, hb0.out.trans (hb7.mono hb0.out.size)⟩

end Go.Proofs.Ytmkkkhlalacaiaa

/- The law FnExactRunRings, walked. -/
import Derived.Test.YtmkkkhlalacaiaaSCall
import Derived.Test.YtmkkkhlalacaiaaLook
namespace Go.Proofs.Ytmkkkhlalacaiaa
open Go.RowKit
open Go.Proofs.Ytmkkkhlalacaiaa.Rm
set_option linter.unusedVariables false
set_option linter.unusedSimpArgs false

theorem runR_app1 (N : Nat) (t : List (List Nat)) (ps qs : List OpV) : (runR N t (ps ++ qs)).1 = (runR N t ps).1 ++ (runR N (runR N t ps).2 qs).1 := by
  unfold runR
  rw [List.foldl_append, foldl_runS N qs]
  rfl
/-- What the k-th call of a script returns, and the rings behind it. -/
theorem runR_at {N : Nat} {t : List (List Nat)} {ps : List OpV} {k : Nat} {p : OpV} (h : ps[k]? = some p) :
    (runR N t ps).1[k]? = some (reS N (runR N t (ps.take k)).2 p) ∧ (runR N t (ps.take (k + 1))).2 = stS N (runR N t (ps.take k)).2 p := by
  obtain ⟨hlt, he⟩ := List.getElem?_eq_some_iff.1 h
  constructor
  · have e : ps = ps.take k ++ p :: ps.drop (k + 1) := by rw [← he, ← List.drop_eq_getElem_cons, List.take_append_drop]
    have hl := runR_len N t (ps.take k)
    rw [List.length_take] at hl
    conv => lhs; rw [e]
    rw [runR_app1, List.getElem?_append_right (by omega), hl, runR_cons]
    simp [show min k ps.length = k by omega]
  · rw [List.take_add_one, h]
    show (runR N t (ps.take k ++ [p])).2 = _
    rw [runR_snoc, runS_eq]
theorem link_length (t : List (List Nat)) (i j : Nat) : (Rm.link t i j).length ≤ t.length + 2 := by
  have h : (others t i j).length ≤ t.length := List.length_filter_le _ _
  have h2 : ∀ (c : Prop) [Decidable c] (x : List Nat), (if c then ([] : List (List Nat)) else [x]).length ≤ 1 := by
    intro c _ x
    split <;> simp
  unfold Rm.link
  simp only
  split
  · rw [List.length_append, List.length_append]
    refine Nat.le_trans (Nat.add_le_add_left (h2 _ _) _) ?_
    simp only [List.length_cons, List.length_nil]
    omega
  · simp only [List.length_append, List.length_cons, List.length_nil]
    omega
theorem st_length (t : List (List Nat)) (p : OpV) : (stT t p).length ≤ t.length + 2 := by
  have h1 := link_length t p.at' p.to
  have h2 := link_length t p.at' (mv t p.at' ((p.n.toNat : Int) + 1))
  unfold stT unlink
  repeat (first | omega | split)
theorem run_length (N : Nat) : ∀ (ps : List OpV) (t : List (List Nat)), (runR N t ps).2.length ≤ t.length + 2 * ps.length
  | [], t => by simp [runR]
  | p :: ps, t => by
    have h1 : (stS N t p).length ≤ t.length + 2 := by
      unfold stS
      split
      · exact st_length t p
      · omega
    have h2 := run_length N ps (stS N t p)
    rw [runR_cons]
    simp only [List.length_cons]
    omega
theorem fits_each {N : Nat} {ps : List OpV} (h : fitsO N ps = true) {p : OpV} (hp : p ∈ ps) : p.at' < N ∧ p.to < N ∧ -1000000 ≤ p.n ∧ p.n ≤ 1000000 ∧ ((p.kind.toList == kUnlink) = true → 0 ≤ p.n) := by
  have := (List.all_eq_true.1 h) p hp
  unfold fitsP at this
  simp only [Bool.not_eq_true', Bool.or_eq_false_iff, decide_eq_false_iff_not] at this
  obtain ⟨⟨⟨⟨h1, h2⟩, h3⟩, h4⟩, h5⟩ := this
  refine ⟨by omega, by omega, by omega, by omega, fun q => ?_⟩
  rw [q] at h5
  simp at h5
  exact h5
theorem nexts_get (N : Nat) (t : List (List Nat)) {r : Nat} (h : r < N) : (nats (nextsT N t)).getD r 0 = (mv t r 1 : Nat) := by
  simp [nats, nextsT, List.getD_eq_getElem?_getD, h]

set_option maxRecDepth 100000 in
set_option maxHeartbeats 1000000 in
theorem fnExactRunRings_walk (a0 : Option Addr) (n0 c0 : Nat) (x0 : List Int) (a1 : Option Addr) (n1 c1 : Nat) (x1 : List OpV) (w : World)
    (h0 : Rd .u16 w a0 n0 c0 x0) (f0 : ∀ x ∈ x0, (Lit.int .u16 x).wf = true) (s0 : c0 * 2 ≤ 140737488351232) (h1 : RdO w a1 n1 c1 x1 ∧ OpsU x1) (d1 : ∀ ad, a1 = some ad → ad.block < w.heap.size) :
    Calls Try.prog 3 #[.slice a0 n0 c0, .slice a1 n1 c1] w fun e w' => e = .returned (.bool true) ∧ Below w.heap.size w w' := by
  have hnot : ∀ (x : Bool) (w : World), (Op.unary .not (.bool x)).run Try.prog w = .ok (.bool (!x)) w := fun _ _ => rfl
  have n0' : n0 ≤ 140737488351232 := by have := h0.le; omega
  have l1 := h1.1.2.1
  have l2 := h1.1.2.2.1
  have hl1 := Lib.hid h1.1.1
  have h1' := Lib.hid h1.1
  have hU := Lib.hid h1.2
  have h0' := Lib.hid h0
  have f0' := Lib.hid f0
  clear h1 d1 h0 f0
  go_enter Try.func3, Try.ntmps3
  go_wp2_with fail
  refine (fits_calls w a0 n0 c0 x0 0 h0'.out f0'.out n0' (by omega)).mono ?_
  rintro e w1 ⟨rfl, rfl⟩
  by_cases hno : fitsB x0 0 = false
  · rw [hno]
    clear hno
    go_wp2
    go_ret
    exact ⟨rfl, Below.refl _ _⟩
  have hfit : fitsB x0 0 = true := by simpa using hno
  clear hno
  rw [hfit]
  simp only [fitsB, Bool.and_eq_true, decide_eq_true_eq] at hfit
  obtain ⟨ht, hi⟩ := hfit
  by_cases hbig : 4096 < n1
  · have tb : decide (4096 < n1) = true := by simpa using hbig
    have tb2 : decide ((4096 : Int) < (n1 : Int)) = true := by simp; omega
    go_wp2
    go_ret
    exact ⟨rfl, Below.refl _ _⟩
  have tb : decide (4096 < n1) = false := by simpa using hbig
  have hn1 : n1 ≤ 4096 := by omega
  clear hbig
  have hsp := Lib.hid (specOps_calls w a1 n1 c1 x1 h1'.out (by omega))
  go_wp2_with fail
  refine hsp.out.mono ?_
  rintro e w2 ⟨a2, n2, c2, rfl, r2, hb2, _⟩
  obtain rfl : n1 = n2 := by have := r2.1; have := hl1.out; omega
  have lc2 := r2.2.2.1
  have le2 := r2.2.1
  have hb2' := Lib.hid hb2
  have r2' := Lib.hid r2
  clear r2 hb2 hsp
  have hsm := Lib.hid (smade_calls w2 a0 n0 c0 x0 (h0'.out.below hb2'.out (Nat.le_refl _)) f0'.out n0' ht)
  go_wp2_with fail
  refine hsm.out.mono ?_
  rintro e w3 ⟨a3, n3, c3, rfl, r3, hb3⟩
  have hb3' := Lib.hid hb3
  have r3' := Lib.hid r3
  have B3 := Lib.hid (hb2'.out.trans (hb3.mono hb2'.out.size))
  clear r3 hb3 hsm
  have hct := count_calls w3 a3 n3 c3 (mk x0) r3'.out (by rw [cnt_mk]; omega)
  rw [cnt_mk] at hct
  have hct' := Lib.hid hct
  clear hct
  go_wp2_with fail
  refine hct'.out.mono ?_
  rintro e w' ⟨rfl, rfl⟩
  clear hct'
  by_cases hbig : 4096 < tot x0
  · have tt : decide (4096 < tot x0) = true := by simpa using hbig
    have tt2 : decide ((4096 : Int) < (tot x0 : Int)) = true := by simp; omega
    go_wp2
    go_ret
    exact ⟨rfl, B3.out⟩
  have tt : decide (4096 < tot x0) = false := by simpa using hbig
  have hN : tot x0 ≤ 4096 := by omega
  clear hbig
  have hft := fitsO_calls2 w3 a3 n3 c3 (mk x0) a2 n1 c2 x1 r3'.out (by rw [cnt_mk]; omega) (r2'.out.below hb3'.out (Nat.le_refl _)) (by omega) hU.out
  rw [cnt_mk] at hft
  have hft' := Lib.hid hft
  clear hft
  go_wp2_with fail
  refine hft'.out.mono ?_
  rintro e w4 ⟨rfl, hb4⟩
  have B4 := Lib.hid (B3.out.trans (hb4.mono B3.out.size))
  have r2d := Lib.hid ((r2'.out.below hb3'.out (Nat.le_refl _)).below hb4 (Nat.le_refl _))
  have r3d := Lib.hid (r3'.out.below hb4 (Nat.le_refl _))
  clear hft' hb4 r2' r3' hb3' hb2' B3
  cases hfit : fitsO (tot x0) x1 with
  | false =>
    clear hfit
    go_wp2
    go_ret
    exact ⟨rfl, B4.out⟩
  | true =>
    have hfe : Hid (∀ p, p ∈ x1 → p.at' < tot x0 ∧ p.to < tot x0 ∧ -1000000 ≤ p.n ∧ p.n ≤ 1000000 ∧ ((p.kind.toList == kUnlink) = true → 0 ≤ p.n)) := fun p hp => fits_each hfit hp
    clear hfit
    have hok : OpsOk x1 := fun p hp => by
      have h1 := hU.out p hp
      have h2 := hfe.out p hp
      exact ⟨h1.1, h1.2, by omega, by omega⟩
    have hrun := Lib.hid (run_calls w4 a0 n0 c0 x0 a1 n1 c1 x1 (h0'.out.below B4.out (Nat.le_refl _)) f0'.out n0' ht (h1'.out.below B4.out (Nat.le_refl _)) (by omega) hok)
    clear hok
    go_wp2_with fail
    refine hrun.out.mono ?_
    rintro e w5 ⟨a5, n5, c5, a6, n6, c6, rfl, r5, r6, hb5⟩
    have l5 := r5.len
    rw [runR_len, hl1.out] at l5
    subst l5
    have l6 := r6.len
    rw [nextsT_len] at l6
    have hle5 := r5.le
    have hle6 := r6.le
    have r5' := Lib.hid r5
    have r6' := Lib.hid r6
    have B5 := Lib.hid (B4.out.trans (hb5.mono B4.out.size))
    have r2e := Lib.hid (r2d.out.below hb5 (Nat.le_refl _))
    have r3e := Lib.hid (r3d.out.below hb5 (Nat.le_refl _))
    have hrep : Hid (∃ nx pv, Inv (tot x0) nx pv ∧ Rep (tot x0) nx (mk x0)) := rep_mk x0
    have hmkl : Hid ((mk x0).length ≤ tot x0) := by show _ ≤ _; rw [mk_length]; exact tot_len x0
    have hct := count_calls w5 a3 n3 c3 (mk x0) r3e.out (by rw [cnt_mk]; omega)
    rw [cnt_mk] at hct
    have hct' := Lib.hid hct
    clear r5 r6 hb5 hrun r2d r3d B4 hct h0' f0' h1'
    generalize tot x0 = N at *
    subst l6
    have tn1 : ((n1 : Int) != (n1 : Int)) = false := by simp
    have tn2 : ((N : Int) != (N : Int)) = false := by simp
    go_wp2_with fail
    refine hct'.out.mono ?_
    rintro e w' ⟨rfl, rfl⟩
    clear hct'
    go_wp2
    go_loopw [6, 57] (fun v q wr => ∃ (k : Nat) (a : Option Addr) (n c : Nat), k ≤ n1 ∧ q = .int .i64 (k : Int) ∧ v = .slice a n c ∧ Hid (Rr wr a n c (runR N (mk x0) (x1.take k)).2) ∧ Hid (Below w5.heap.size w5 wr)) (fun _ q _ => n1 - (intOf q).toNat)
    case atStart => exact ⟨0, a3, n3, c3, Nat.zero_le _, rfl, rfl, r3e, Below.refl _ _⟩
    case round =>
      clear r3e
      obtain ⟨k, a, n, c, hk, rfl, rfl, hRr, hbr⟩ := hrel
      have hnl : n ≤ 20000 := by
        have h1 := run_length N (x1.take k) (mk x0)
        have h2 : (x1.take k).length ≤ k := List.length_take_le _ _
        have h3 := hmkl.out
        have h4 := hRr.out.1
        omega
      have hle := hRr.out.2.1
      have hcm := hRr.out.2.2.1
      obtain ⟨nx, pv, hI0, hR0⟩ := run_rep hrep.out (x1.take k)
      have hI := Lib.hid hI0
      have hR := Lib.hid hR0
      clear hI0 hR0
      by_cases hlt : k < n1
      · obtain ⟨p, hpk⟩ : ∃ p, x1[k]? = some p := ⟨_, List.getElem?_eq_getElem (by rw [hl1.out]; exact hlt)⟩
        have hx := (r2e.out.below hbr.out (Nat.le_refl _)).2.2.2 k p hpk
        have hpm := List.mem_of_getElem? hpk
        have hy := hU.out p hpm
        have hz := hfe.out p hpm
        obtain ⟨eo, es⟩ := runR_at (N := N) (t := mk x0) hpk
        have hin : p.at' < N ∧ p.to < N := ⟨hz.1, hz.2.1⟩
        rw [show reS N (runR N (mk x0) (x1.take k)).2 p = resT (runR N (mk x0) (x1.take k)).2 p from if_pos hin] at eo
        rw [show stS N (runR N (mk x0) (x1.take k)).2 p = stT (runR N (mk x0) (x1.take k)).2 p from if_pos hin] at es
        have es' := Lib.hid es
        obtain ⟨b5, o5, rfl, hb5l, hcl⟩ := (r5'.out.below hbr.out (Nat.le_refl _)).at (by omega)
        have hc5 := hcl k hlt
        rw [List.getD_eq_getElem?_getD, eo] at hc5
        simp only [Option.getD_some] at hc5
        clear hcl eo es hpk hpm
        generalize (runR N (mk x0) (x1.take k)).2 = t at hRr hR hc5 es'
        have hrm := Lib.hid (rfl : resT t p = resT t p)
        obtain ⟨b, off, rfl, hb, d0, d1, d2, d3⟩ := hx
        obtain ⟨kd, i, j, z⟩ := p
        simp only at d0 d1 d2 d3 hy hz hin
        have hbA : Below wr.heap.size wr (wr.alloc (.cells #[.string kd, .int .u16 (i : Int), .int .u16 (j : Int), .int .i64 z] 37)) := (Below.refl _ _).alloc (Nat.le_refl _) _
        have hbA' := Lib.hid (hbr.out.trans (hbA.mono hbr.out.size))
        have hsc := Lib.hid (scall_calls _ a n c t N nx pv ⟨kd, i, j, z⟩ (hRr.out.below hbA (Nat.le_refl _)) hR.out hI.out (by omega) (by omega) hin.1 hin.2 ⟨hz.2.2.1, hz.2.2.2.1⟩ hz.2.2.2.2)
        have hc6 := Lib.hid hc5
        clear hbA hz hy hin hc5 hR hI hRr hbr
        generalize resT t ⟨kd, i, j, z⟩ = m at hsc hc6
        go_wp2_with fail
        refine hsc.out.mono ?_
        rintro e w7 ⟨a7, n7, c7, r, ok, rfl, hok, r7, hb7⟩
        have r7' : Hid (Rr w7 a7 n7 c7 (runR N (mk x0) (x1.take (k + 1))).2) := by show Rr _ _ _ _ _; rw [es'.out]; exact r7
        have B7 := Lib.hid (hbA'.out.trans (hb7.mono hbA'.out.size))
        have hc7 : w7.cell? ⟨b5, o5 + k, none⟩ = some (.int .i64 m) := by
          rw [hb7.cell (p := ⟨b5, o5 + k, none⟩) (by show b5 < (wr.alloc _).heap.size; simp; omega), ((Below.refl wr.heap.size wr).alloc (Nat.le_refl _) _).cell (p := ⟨b5, o5 + k, none⟩) hb5l]
          exact hc6.out
        clear r7 hb7 hsc hc6 es'
        cases ok with
        | false =>
          clear hok
          go_wp2
          go_roundw
          case rel => exact ⟨k + 1, a7, n7, c7, hlt, by go_num, rfl, r7', B7⟩
          case measure => simp [intOf]; omega
        | true =>
          obtain rfl := hok rfl
          clear hok
          have te : (r != r) = false := by simp
          have q1 : (0 : Int) ≤ (k : Int) := by omega
          have q2 : (k : Int) < (n1 : Int) := by omega
          go_wp2
          go_roundw
          case rel => exact ⟨k + 1, a7, n7, c7, hlt, by go_num, rfl, r7', B7⟩
          case measure => simp [intOf]; omega
      · obtain rfl : k = n1 := by omega
        have q : ¬ ((k : Int) < (k : Int)) := by omega
        have e : x1.take k = x1 := List.take_of_length_le (by rw [hl1.out]; exact Nat.le_refl _)
        rw [e] at hRr hR
        clear e
        generalize (runR N (mk x0) x1).2 = t at hRr hR r6'
        have hbr0 := Lib.hid (B5.out.trans (hbr.out.mono B5.out.size))
        have hRu : Hid (∀ u, Below wr.heap.size wr u → ∀ r, r < N → Calls Try.prog 14 #[.slice a n c, .int .i64 (r : Int), .int .i64 1] u (NumPost u (mv t r 1 : Nat))) := by
          intro u hu r hr
          refine smove_calls u a n c t r 1 (hRr.out.below hu (Nat.le_refl _)) (by omega) (fun l hl => Nat.le_trans (hR.out.len_mem hl) (by omega)) (by omega) (hR.out.from_ring hr).pos (Nat.le_trans (hR.out.len_le hr) (by omega)) (by omega)
        have r6w := Lib.hid (r6'.out.below hbr.out (Nat.le_refl _))
        clear hRr hR hI r6' hbr hnl
        go_wp2
        go_loopw [82] (fun q u => ∃ r : Nat, r ≤ N ∧ q = .int .i64 (r : Int) ∧ Hid (Below wr.heap.size wr u)) (fun q _ => N - (intOf q).toNat)
        case atStart => exact ⟨0, Nat.zero_le _, rfl, Below.refl _ _⟩
        case round =>
          obtain ⟨r, hr, rfl, hbu⟩ := hrel
          by_cases hrl : r < N
          · obtain ⟨b6, o6, rfl, hb6l, hcl⟩ := (r6w.out.below hbu.out (Nat.le_refl _)).at (by omega)
            have hc6 := hcl r hrl
            rw [nexts_get N t hrl] at hc6
            have hmv := hRu.out wr hbu.out r hrl
            generalize mv t r 1 = y at hc6 hmv
            have hmv' := Lib.hid hmv
            have te : ((y : Int) != (y : Int)) = false := by simp
            clear hcl hmv
            go_wp2_with fail
            refine hmv'.out.mono ?_
            rintro e w8 ⟨rfl, hb8⟩
            have B8 := Lib.hid (hbu.out.trans (hb8.mono hbu.out.size))
            clear hb8 hbu hmv'
            go_wp2
            go_roundw
            case rel => exact ⟨r + 1, hrl, by go_num, B8⟩
            case measure => simp [intOf]; omega
          · obtain rfl : r = N := by omega
            have q2 : ¬ ((r : Int) < (r : Int)) := by omega
            go_wp2
            go_ret
            exact ⟨rfl, hbr0.out.trans (hbu.out.mono hbr0.out.size)⟩

end Go.Proofs.Ytmkkkhlalacaiaa

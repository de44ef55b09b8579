/- The drawn law FnScriptTurned, walked. Written by gendrawnf.py. -/
import Derived.Test.YtmkkkhlalacaiaaPickO
import Derived.Deep.RegionHeld3
import Derived.Deep.RegionLaw
namespace Go.Proofs.Ytmkkkhlalacaiaa
open Go.RowKit
open Go.Proofs.Ytmkkkhlalacaiaa.Rm
set_option linter.unusedVariables false
set_option linter.unusedSimpArgs false

set_option maxRecDepth 100000 in
set_option maxHeartbeats 1000000 in
theorem fnScriptTurned_walk (a0 : Option Addr) (n0 c0 : Nat) (x0 : List Int) (w : World) (h0 : Rd .u8 w a0 n0 c0 x0) (f0 : ∀ x ∈ x0, (Lit.int .u8 x).wf = true) (s0 : c0 * 1 ≤ 140737488351232) (d0 : ∀ ad, a0 = some ad → ad.block < w.heap.size) :
    Calls Try.prog 6 #[.slice a0 n0 c0] w fun e w' => e = .returned (.bool true) ∧ Below w.heap.size w w' := by
  have hnot : ∀ (x : Bool) (w : World), (Op.unary .not (.bool x)).run Try.prog w = .ok (.bool (!x)) w := fun _ _ => rfl
  have l := h0.le
  have hB := Lib.hid (bytes_of_wf f0)
  have hd0 := Lib.hid d0
  have h0' := Lib.hid h0
  clear f0 d0 h0
  go_enter Try.func6, Try.ntmps6
  go_wp2_with fail
  refine (large_calls a0 n0 c0 w (by omega)).mono ?_
  rintro e w' ⟨rfl, rfl⟩
  by_cases hbig : 1048576 < n0
  · have tb : decide (1048576 < n0) = true := by simpa using hbig
    go_wp2
    go_ret
    exact ⟨rfl, Below.refl _ _⟩
  have tb : decide (1048576 < n0) = false := by simpa using hbig
  clear hbig
  go_wp2_with fail
  refine (drawRun_calls w a0 n0 c0 x0 h0'.out hB.out hd0.out).mono ?_
  clear h0' hB hd0 tb
  rintro e w1 ⟨a1, n1, c1, xs, oa, on, oc, ps, rfl, hz0, hpo0, hon, hok0, hbw⟩
  have hz := Lib.hid hz0
  have hb0 := Lib.hid hbw
  have ht := hz0.t21
  have hpo := Lib.hid hpo0
  have hok := Lib.hid hok0
  clear hz0 hbw hpo0 hok0
  have hba1 : Hid (Below w1.heap.size w1 (w1.alloc (.cells #[] 47))) := (Below.refl _ _).alloc (Nat.le_refl _) _
  have hio := Lib.hid (implOps_calls (w1.alloc (.cells #[] 47)) oa on oc ps (hpo.out.below hba1.out (Nat.le_refl _)) (by omega))
  have hoe := Lib.hid (OwnO.empty 47 w1.heap.size w1 (Nat.le_refl _))
  go_wp2_with fail
  refine hio.out.mono ?_
  rintro e w3 ⟨a4, n4, c4, rfl, r4, hb3, hf4⟩
  have hl4 := r4.1
  have hl1 := hpo.out.1
  have hn4 : n4 ≤ 8 := by omega
  have hc4 := r4.2.2.1
  have hle4 := r4.2.1
  have r4' := Lib.hid r4
  have hl4' := Lib.hid hl4
  have B3 := Lib.hid (hba1.out.trans (hb3.mono hba1.out.size))
  have hz3 := Lib.hid (hz.out.below B3.out (Nat.le_refl _))
  have hO3 : Hid (PickAt w1 w3 (.slice (some ⟨w1.heap.size, 0, none⟩) 0 0) (links (tot xs) (ps.take 0)) a4 n4 c4 ps) := by
    refine ⟨hoe.out.below hb3 (Nat.le_refl _), B3.out, r4, fun ad e => ⟨fun q => ?_, (hf4 ad e).2⟩⟩
    have h1 := (hf4 ad e).1
    simp only [Value.ownBlock, Option.some.injEq] at q
    simp at h1
    omega
  clear r4 hl4 hl1 hio hoe hb3 hba1 hf4
  go_wp2
  go_loopw [5, 24] (fun v q wr => ∃ k : Nat, k ≤ n4 ∧ q = .int .i64 (k : Int) ∧ Hid (PickAt w1 wr v (links (tot xs) (ps.take k)) a4 n4 c4 ps)) (fun _ q _ => n4 - (intOf q).toNat)
  case atStart => exact ⟨0, Nat.zero_le _, rfl, hO3⟩
  case round =>
    clear hO3
    obtain ⟨k, hk, rfl, hA⟩ := hrel
    by_cases hlt : k < n4
    · obtain ⟨p, hpk⟩ : ∃ p, ps[k]? = some p := ⟨_, List.getElem?_eq_getElem (by rw [hl4'.out]; exact hlt)⟩
      have hx := hA.out.rd.2.2.2 k p hpk
      have hy := hok.out p (List.mem_of_getElem? hpk)
      have htk : Hid (links (tot xs) (ps.take (k + 1)) = links (tot xs) (ps.take k) ++ if linkB' (tot xs) p = true then [p] else []) := by
        show _ = _
        rw [List.take_add_one, hpk]; exact links_snoc _ _ _
      have hlen : (links (tot xs) (ps.take k)).length ≤ 20 := by
        have := links_len (tot xs) (ps.take k)
        have : (ps.take k).length ≤ k := List.length_take_le _ _
        omega
      clear hpk
      obtain ⟨b, off, rfl, hb, d0, d1, d2, d3⟩ := hx
      obtain ⟨q1, q2, q3, q4⟩ := hy
      obtain ⟨kd, i, j, z⟩ := p
      simp only at d0 d1 d2 d3 q1 q2 q3 q4
      generalize links (tot xs) (ps.take k) = qs at hA htk hlen
      obtain ⟨av, cv, rfl⟩ := hA.out.own.form
      have hA2 := Lib.hid (hA.out.to (w' := wr.alloc (.cells #[.string kd, .int .u16 (i : Int), .int .u16 (j : Int), .int .i64 z] 47)) ((Below.refl _ _).alloc (Nat.le_refl _) _))
      have hop := heap_alloc_new wr (.cells #[.string kd, .int .u16 (i : Int), .int .u16 (j : Int), .int .i64 z] 47)
      have hszW : wr.heap.size < (wr.alloc (.cells #[.string kd, .int .u16 (i : Int), .int .u16 (j : Int), .int .i64 z] 47)).heap.size := blk_lt hop
      obtain ⟨f0, f1, f2, f3, _⟩ := op_facts hop
      have hS1 : (wr.alloc (.cells #[.string kd, .int .u16 (i : Int), .int .u16 (j : Int), .int .i64 z] 47)).cell? ⟨wr.heap.size, 0, none⟩ = some (.string kd) ∧ (wr.alloc (.cells #[.string kd, .int .u16 (i : Int), .int .u16 (j : Int), .int .i64 z] 47)).cell? ⟨wr.heap.size, 1, none⟩ = some (.int .u16 (i : Int)) ∧ (wr.alloc (.cells #[.string kd, .int .u16 (i : Int), .int .u16 (j : Int), .int .i64 z] 47)).cell? ⟨wr.heap.size, 2, none⟩ = some (.int .u16 (j : Int)) ∧ (wr.alloc (.cells #[.string kd, .int .u16 (i : Int), .int .u16 (j : Int), .int .i64 z] 47)).cell? ⟨wr.heap.size, 3, none⟩ = some (.int .i64 z) := ⟨f0, f1, f2, f3⟩
      clear hop f0 f1 f2 f3
      by_cases g1 : (kd.toList == [108, 105, 110, 107]) = true
      case neg =>
        have g1' : (kd.toList == [108, 105, 110, 107]) = false := by simpa using g1
        have hno : Hid (linkB' (tot xs) ⟨kd, i, j, z⟩ = false) := by show _ = _; unfold linkB'; simp only [g1']; rfl
        clear g1 hS1 hszW
        rw [hno.out] at htk
        simp only [Bool.false_eq_true, if_false, List.append_nil] at htk
        have hA3 : Hid (PickAt w1 (wr.alloc (.cells #[.string kd, .int .u16 (i : Int), .int .u16 (j : Int), .int .i64 z] 47)).drew (.slice av qs.length cv) qs (some ⟨b, off, none⟩) n4 c4 ps) := ⟨hA2.out.own.drew, below_drewN hA2.out.below 1, hA2.out.rd, hA2.out.ne⟩
        clear hA
        go_wp2
        go_quiet (fail)
        go_wp2
        go_roundw
        case rel => exact ⟨k + 1, hlt, by go_num, by rw [htk.out]; exact ⟨hA3.out.own, below_drewN hA2.out.below nq, hA3.out.rd, hA3.out.ne⟩⟩
        case measure => simp [intOf]; omega
      have hlk : linkB' (tot xs) ⟨kd, i, j, z⟩ = fitsP (tot xs) ⟨kd, i, j, z⟩ := by unfold linkB'; simp only [g1]; rfl
      have hfalse : Hid (fitsP (tot xs) ⟨kd, i, j, z⟩ = false → (if linkB' (tot xs) ⟨kd, i, j, z⟩ = true then [(⟨kd, i, j, z⟩ : OpV)] else []) = []) := fun h => by rw [hlk, h]; rfl
      have htrue : Hid (fitsP (tot xs) ⟨kd, i, j, z⟩ = true → (if linkB' (tot xs) ⟨kd, i, j, z⟩ = true then [(⟨kd, i, j, z⟩ : OpV)] else []) = [⟨kd, i, j, z⟩]) := fun h => by rw [hlk, h]; rfl
      obtain ⟨fb, hfb0⟩ : ∃ fb, fitsP (tot xs) ⟨kd, i, j, z⟩ = fb := ⟨_, rfl⟩
      have hfb := Lib.hid hfb0
      clear hfb0 hlk hA
      go_wp2
      generalize hWW : wr.alloc (.cells #[.string kd, .int .u16 (i : Int), .int .u16 (j : Int), .int .i64 z] 47) = W at hA2 hS1 hszW ⊢
      clear hWW
      have hbW := Lib.hid hA2.out.below
      have hzW := Lib.hid (hz.out.below hbW.out (Nat.le_refl _))
      have hgo : Hid (∀ u, Below W.heap.size W u → u.cell? ⟨wr.heap.size, 0, none⟩ = some (.string kd) ∧ u.cell? ⟨wr.heap.size, 1, none⟩ = some (.int .u16 (i : Int)) ∧ u.cell? ⟨wr.heap.size, 2, none⟩ = some (.int .u16 (j : Int)) ∧ u.cell? ⟨wr.heap.size, 3, none⟩ = some (.int .i64 z) ∧ Below W.heap.size W u) := by
        intro u hu
        have k : ∀ o, u.cell? ⟨wr.heap.size, o, none⟩ = W.cell? ⟨wr.heap.size, o, none⟩ := fun o => hu.cell (p := ⟨wr.heap.size, o, none⟩) hszW
        exact ⟨by rw [k]; exact hS1.1, by rw [k]; exact hS1.2.1, by rw [k]; exact hS1.2.2.1, by rw [k]; exact hS1.2.2.2, hu⟩
      have hSd : W.drew.cell? ⟨wr.heap.size, 0, none⟩ = some (.string kd) ∧ W.drew.cell? ⟨wr.heap.size, 1, none⟩ = some (.int .u16 (i : Int)) ∧ W.drew.cell? ⟨wr.heap.size, 2, none⟩ = some (.int .u16 (j : Int)) ∧ W.drew.cell? ⟨wr.heap.size, 3, none⟩ = some (.int .i64 z) ∧ Below W.heap.size W W.drew := hgo.out _ (below_drewN (Below.refl _ _) 1)
      have hSa : (W.alloc (.cells #[.string kd, .int .u16 (i : Int), .int .u16 (j : Int), .int .i64 z] 47)).drew.cell? ⟨wr.heap.size, 0, none⟩ = some (.string kd) ∧ (W.alloc (.cells #[.string kd, .int .u16 (i : Int), .int .u16 (j : Int), .int .i64 z] 47)).drew.cell? ⟨wr.heap.size, 1, none⟩ = some (.int .u16 (i : Int)) ∧ (W.alloc (.cells #[.string kd, .int .u16 (i : Int), .int .u16 (j : Int), .int .i64 z] 47)).drew.cell? ⟨wr.heap.size, 2, none⟩ = some (.int .u16 (j : Int)) ∧ (W.alloc (.cells #[.string kd, .int .u16 (i : Int), .int .u16 (j : Int), .int .i64 z] 47)).drew.cell? ⟨wr.heap.size, 3, none⟩ = some (.int .i64 z) ∧ Below W.heap.size W (W.alloc (.cells #[.string kd, .int .u16 (i : Int), .int .u16 (j : Int), .int .i64 z] 47)).drew := hgo.out _ (below_drewN ((Below.refl _ _).alloc (Nat.le_refl _) _) 1)
      have hlit0 : Hid (RdO (W.alloc (.cells #[.string kd, .int .u16 (i : Int), .int .u16 (j : Int), .int .i64 z] 47)).drew (some ⟨W.heap.size, 0, none⟩) 1 1 [⟨kd, i, j, z⟩]) := rdo_one W ⟨kd, i, j, z⟩ 47
      have hfit := Lib.hid (fits_one xs ht ⟨kd, i, j, z⟩ (by simp only; omega) fb hfb.out)
      clear hS1
      go_region_held3 (fun u => u.cell? ⟨wr.heap.size, 0, none⟩ = some (.string kd) ∧ u.cell? ⟨wr.heap.size, 1, none⟩ = some (.int .u16 (i : Int)) ∧ u.cell? ⟨wr.heap.size, 2, none⟩ = some (.int .u16 (j : Int)) ∧ u.cell? ⟨wr.heap.size, 3, none⟩ = some (.int .i64 z) ∧ Below W.heap.size W u) (first | with_reducible assumption | with_reducible exact hSx)
        (first
          | (go_at_call 9; ((with_reducible refine (hzW.out.made_on W.drew hSd.2.2.2.2).mono ?_); rintro e x1 ⟨a5, n5, c5, rfl, hr5, hb5⟩; have hB1 := hSd.2.2.2.2.trans (hb5.mono hSd.2.2.2.2.size); have hS5 := hgo.out _ hB1; have hba : Below x1.heap.size x1 (x1.alloc (.cells #[.string kd, .int .u16 (i : Int), .int .u16 (j : Int), .int .i64 z] 47)) := (Below.refl _ _).alloc (Nat.le_refl _) _; have hBx := hB1.trans (hba.mono hB1.size); have hSx := hgo.out _ hBx; have hr6 := hr5.below hba (Nat.le_refl _); have hlit := rdo_one x1 ⟨kd, i, j, z⟩ 47; have hlit' := Lib.hid hlit; have hr6' := Lib.hid hr6; clear hr5 hr6 hlit))
          | (go_at_call 9; ((with_reducible refine (hzW.out.made_on (W.alloc (.cells #[.string kd, .int .u16 (i : Int), .int .u16 (j : Int), .int .i64 z] 47)).drew hSa.2.2.2.2).mono ?_); rintro e x1 ⟨a5, n5, c5, rfl, hr5, hb5⟩; have hB1 := hSa.2.2.2.2.trans (hb5.mono hSa.2.2.2.2.size); have hS5 := hgo.out _ hB1; have hlit' := Lib.hid (hlit0.out.below hb5 (Nat.le_refl _)); have hr6' := Lib.hid hr5; clear hr5))
          | (go_at_call 9; ((with_reducible refine (hzW.out.made_on x2 hB2).mono ?_); rintro e x1 ⟨a5, n5, c5, rfl, hr5, hb5⟩; have hB1 := hB2.trans (hb5.mono hB2.size); have hS5 := hgo.out _ hB1; have ho7' := Lib.hid (ho6'.out.below hb5 (Nat.le_refl _)); have hr6' := Lib.hid hr5; clear hr5))
          | (go_at_call 8; ((with_reducible refine (specOps_calls (x1.alloc (.cells #[.string kd, .int .u16 (i : Int), .int .u16 (j : Int), .int .i64 z] 47)) _ 1 1 [⟨kd, i, j, z⟩] hlit'.out (by omega)).mono ?_); rintro e x2 ⟨a6, n6, c6, rfl, ho6, hb6, _⟩; have hB2 := hBx.trans (hb6.mono hBx.size); have hS6 := hgo.out _ hB2; have hr7' := Lib.hid (hr6'.out.below hb6 (Nat.le_refl _)); have ho6' := Lib.hid ho6; clear ho6))
          | (go_at_call 8; ((with_reducible refine (specOps_calls x1 _ 1 1 [⟨kd, i, j, z⟩] hlit'.out (by omega)).mono ?_); rintro e x2 ⟨a6, n6, c6, rfl, ho6, hb6, _⟩; have hB2 := hB1.trans (hb6.mono hB1.size); have hS6 := hgo.out _ hB2; have hr7' := Lib.hid (hr6'.out.below hb6 (Nat.le_refl _)); have ho6' := Lib.hid ho6; clear ho6))
          | (go_at_call 8; ((with_reducible refine (specOps_calls (W.alloc (.cells #[.string kd, .int .u16 (i : Int), .int .u16 (j : Int), .int .i64 z] 47)).drew _ 1 1 [⟨kd, i, j, z⟩] hlit0.out (by omega)).mono ?_); rintro e x2 ⟨a6, n6, c6, rfl, ho6, hb6, _⟩; have hB2 := hSa.2.2.2.2.trans (hb6.mono hSa.2.2.2.2.size); have hS6 := hgo.out _ hB2; have ho6' := Lib.hid ho6; clear ho6))
          | (go_at_call 11; ((with_reducible refine (hfit.out x2 a5 n5 c5 a6 n6 c6 hr7'.out ho6'.out).mono ?_); rintro e x3 ⟨rfl, hb7⟩; have hB3 := hB2.trans (hb7.mono hB2.size); have hS7 := hgo.out _ hB3))
          | (go_at_call 11; ((with_reducible refine (hfit.out x1 a5 n5 c5 a6 n6 c6 hr6'.out ho7'.out).mono ?_); rintro e x3 ⟨rfl, hb7⟩; have hB3 := hB1.trans (hb7.mono hB1.size); have hS7 := hgo.out _ hB3)))
      all_goals
        have hP3 := Lib.hid (hA2.out.to hB3)
        have hS8 := Lib.hid hS7
        clear hS7
        have ⟨e0, e1, e2, e3, _⟩ := hS8.out
        cases fb with
        | false =>
          rw [hfalse.out hfb.out, List.append_nil] at htk
          go_wp2
          go_roundw
          case rel => exact ⟨k + 1, hlt, by go_num, by rw [htk.out]; exact hP3⟩
          case measure => simp [intOf]; omega
        | true =>
          rw [htrue.out hfb.out] at htk
          have hown := hP3.out.own
          have hsz3 := hP3.out.below.size
          go_wp2_with (first
            | (at_builtin; refine wpl_pushO (w := x3) rfl (.tmp 39) (.tmp 41) 23 47 rfl Try.underlying23 infoIOp rfl w1.heap.size _ _ [⟨kd, i, j, z⟩] 1 #[.string kd, .int .u16 (i : Int), .int .u16 (j : Int), .int .i64 z] rfl rfl rfl (by simp [Act.eval]) hown (by unfold maxLen; omega) (by omega) hsz3 ?_))
          intro v9 w9 o9 p9
          have hN := Lib.hid (hP3.out.push o9 p9)
          clear o9 p9 hown e0 e1 e2 e3
          go_wp2
          go_roundw
          case rel => exact ⟨k + 1, hlt, by go_num, by rw [htk.out]; exact hN⟩
          case measure => simp [intOf]; omega
    · obtain rfl : k = n4 := by omega
      have q : ¬ ((k : Int) < (k : Int)) := by omega
      have e : ps.take k = ps := List.take_of_length_le (by rw [hl4'.out]; exact Nat.le_refl _)
      rw [e] at hA
      clear e
      obtain ⟨a9, c9, e9, r9⟩ := hA.out.own.rd
      subst e9
      have hl9 := links_len (tot xs) ps
      have hps : ps.length ≤ 8 := by have := hl4'.out; omega
      have hokq := Lib.hid (links_ok (N := tot xs) hok.out)
      have hall := Lib.hid (links_all (N := tot xs) (ps := ps))
      have hrep : Hid (∃ nx pv, Inv (tot xs) nx pv ∧ Rep (tot xs) nx (mk xs)) := rep_mk xs
      have hrun' := Lib.hid (hz.out.run2 a9 _ c9 (links (tot xs) ps) (by omega) hokq.out wr hA.out.below r9)
      have hlr := runR_len (tot xs) (mk xs) (links (tot xs) ps)
      have hout := Lib.hid (link_outs (t := mk xs) hall.out hrep.out)
      have htn := Lib.hid (turned (t := mk xs) hall.out hrep.out)
      have hO := Lib.hid hA.out.own
      have hBw := Lib.hid hA.out.below
      generalize links (tot xs) ps = qs at hl9 hokq hall hrun' hlr hout htn hO r9
      generalize (runR (tot xs) (mk xs) qs).1 = l1 at hrun' hlr hout htn
      have hql : qs.length ≤ 8 := by omega
      clear r9 hl9 hA hall
      go_wp2_with fail
      refine hrun'.out.mono ?_
      rintro e w5 ⟨a5, n5, c5, a6, n6, c6, rfl, r5, r6, hb5, hlo5⟩
      obtain rfl : qs.length = n5 := by have := r5.len; omega
      have hle5 := r5.le
      have hst : Hid (BackAt w1 w5 (.slice a9 qs.length c9) (qs ++ undoTo qs l1 qs.length) a5 qs.length c5 l1) := by
        refine ⟨?_, hBw.out.trans (hb5.mono hBw.out.size), r5, fun ad e => ⟨fun q => ?_, (hlo5 ad e).2⟩⟩
        · rw [undoTo_all, List.append_nil]; exact hO.out.below hb5 (Nat.le_refl _)
        · have h1 := (hO.out.lt q).2
          have h2 := (hlo5 ad e).1
          omega
      have hlr' := Lib.hid hlr
      have hNlt : tot xs ≤ 21 := ht
      clear r5 r6 hb5 hlo5 hrun' hlr hO hBw
      have hstp := Lib.hid (Nat.le_refl 0)
      have tq : ((qs.length : Int) != (qs.length : Int)) = false := by simp
      go_wp2
      go_loopw [5, 10] (fun v q wr => ∃ (j : Nat) (z : Int), j ≤ qs.length ∧ z = (j : Int) - 1 ∧ q = .int .i64 z ∧ Hid (BackAt w1 wr v (qs ++ undoTo qs l1 j) a5 qs.length c5 l1)) (fun _ q _ => (intOf q + 1).toNat)
      case atStart => exact ⟨qs.length, (qs.length : Int) - 1, Nat.le_refl _, rfl, rfl, hst⟩
      case round =>
        clear hst
        obtain ⟨j, z, hj, hzj, rfl, hA⟩ := hrel
        by_cases hj0 : j = 0
        · subst hj0
          have hneg : ¬ ((0 : Int) ≤ z) := by omega
          have hneg2 : decide ((0 : Int) ≤ z) = false := by simpa using hneg
          clear hzj
          have hBw := Lib.hid hA.out.below
          obtain ⟨a7, c7, e7, r7⟩ := hA.out.own.rd
          subst e7
          rw [undoTo_zero] at r7 hA
          have hlen7 : (qs ++ undo qs l1).length ≤ 16 := by have := undoTo_len qs l1 0; rw [undoTo_zero] at this; simp; omega
          have hok7 := hokq.out.append (undoTo_ok (N := tot xs) (by omega) hokq.out hout.out 0)
          rw [undoTo_zero] at hok7
          have hrun2 := hz.out.run2 a7 _ c7 (qs ++ undo qs l1) (by omega) hok7 wr hA.out.below r7
          rw [htn.out.nexts] at hrun2
          have hrun3 := Lib.hid hrun2
          rw [undoTo_zero]
          generalize qs ++ undo qs l1 = L7 at hrun3 hlen7 ⊢
          generalize (runR (tot xs) (mk xs) L7).1 = l2 at hrun3
          clear hrun2 r7 hok7 htn hout hokq hA hstp
          go_wp2_with fail
          refine hrun3.out.mono ?_
          rintro e w6 ⟨a8, n8, c8, a6, n6, c6, rfl, _, r6, hb6, _⟩
          have l6 := r6.len
          rw [nextsT_len] at l6
          have r6' := Lib.hid r6
          have hB6 := Lib.hid (hBw.out.trans (hb6.mono hBw.out.size))
          have hz6 := Lib.hid (hz.out.below hB6.out (Nat.le_refl _))
          clear r6 hb6 hrun3 hz
          generalize hNN : tot xs = N at *
          subst l6
          have hNN' := Lib.hid hNN
          clear hNN
          go_wp2_with fail
          refine (hz6.out.made w6 (Below.refl _ _)).mono ?_
          rintro e w7 ⟨a7, n7, c7, rfl, r7, hb7⟩
          have hcc := cnt_count r7 (by rw [hNN'.out]; omega)
          rw [hNN'.out] at hcc
          have hcc' := Lib.hid hcc
          clear r7 hcc
          go_wp2_with fail
          refine hcc'.out.mono ?_
          rintro e w8 ⟨rfl, rfl⟩
          have hnx := hz6.out.nexts w7 hb7
          rw [hNN'.out] at hnx
          have hnx' := Lib.hid hnx
          clear hnx
          go_wp2_with fail
          refine hnx'.out.mono ?_
          rintro e w10 ⟨a10, n10, c10, rfl, r10, hb10⟩
          have hsm := Lib.hid (same_calls _ _ _ _ _ _ _ _ w10 (r6'.out.below hb10 (Nat.le_refl _)) r10)
          clear r10 hnx' hcc'
          go_wp2_with fail
          refine hsm.out.mono ?_
          rintro e w11 ⟨rfl, hb11⟩
          have B5 := hb0.out.trans (hB6.out.mono hb0.out.size)
          have B10 := B5.trans (hb10.mono B5.size)
          go_wp2
          go_ret
          exact ⟨by simp, B10.trans (hb11.mono B10.size)⟩
        · obtain ⟨i, rfl⟩ : ∃ i, j = i + 1 := ⟨j - 1, by omega⟩
          obtain rfl : z = (i : Int) := by omega
          clear hj0 hzj
          have hil : i < qs.length := by omega
          obtain ⟨p, hpi⟩ : ∃ p, qs[i]? = some p := ⟨_, List.getElem?_eq_getElem hil⟩
          have hoi : l1[i]? = some (l1[i]'(by rw [hlr'.out]; exact hil)) := List.getElem?_eq_getElem _
          obtain ⟨m, hm, hmN⟩ := hout.out _ (List.mem_of_getElem? hoi)
          rw [hm] at hoi
          have hstep := Lib.hid (undoTo_step hpi hoi)
          obtain ⟨a7, c7, e7, r7⟩ := hA.out.own.rd
          subst e7
          obtain ⟨b7, o7, rfl, hb7, _, d1, _, _⟩ := r7.2.2.2 i p (by rw [List.getElem?_append_left hil]; exact hpi)
          have hpb := (hokq.out p (List.mem_of_getElem? hpi)).1
          have hlen7 : (qs ++ undoTo qs l1 (i + 1)).length ≤ 16 := by have := undoTo_len qs l1 (i + 1); simp; omega
          have hlen8 : i < (qs ++ undoTo qs l1 (i + 1)).length := by simp; omega
          have hcap7 := r7.2.1
          have hcap8 := r7.2.2.1
          obtain ⟨b5, o5, rfl, _, hcl⟩ := hA.out.rd.at (by omega)
          have d2 := hcl i hil
          rw [List.getD_eq_getElem?_getD, hoi] at d2
          simp only [Option.getD_some] at d2
          clear hcl r7 hoi hpi hm
          obtain ⟨kd, ia, jt, zn⟩ := p
          simp only at d1 hpb hstep
          have hst2 : Hid (qs ++ undoTo qs l1 i = (qs ++ undoTo qs l1 (i + 1)) ++ [⟨bLink, ia, m, 0⟩]) := by show _ = _; rw [hstep.out, List.append_assoc]
          generalize qs ++ undoTo qs l1 (i + 1) = L7 at hA hlen7 hlen8 hst2 hcap7 ⊢
          have hAd := Lib.hid hA.out.drew
          have hown := hAd.out.own
          have hsz7 := hAd.out.below.size
          have hwr : IntKind.u16.wrap (m : Int) = (m : Int) := IntWalk.u16_in _ (by omega)
          have q1 : (0 : Int) ≤ (i : Int) := by omega
          have q2 : (i : Int) < (L7.length : Int) := by omega
          have q3 : (i : Int) < (qs.length : Int) := by omega
          clear hstep hA hstp
          go_wp2
          go_region_law (first
            | (refine step_pushO (w := wr.drew) rfl (.tmp 67) (.tmp 79) 23 47 rfl Try.underlying23 infoIOp rfl w1.heap.size _ _ [⟨bLink, ia, m, 0⟩] 1 #[.string bLink, .int .u16 (ia : Int), .int .u16 (m : Int), .int .i64 0] rfl rfl rfl (by simp [Act.eval]) hown (by unfold maxLen; omega) (by omega) hsz7 ?_; intro v9 w9 o9 p9; have hN := Lib.hid (hAd.out.push o9 p9); clear o9 p9))
          all_goals
            go_wp2
            go_roundw
            case rel => exact ⟨i, (i : Int) - 1, by omega, rfl, by go_num, by rw [hst2.out]; exact hN⟩
            case measure => simp [intOf]

end Go.Proofs.Ytmkkkhlalacaiaa

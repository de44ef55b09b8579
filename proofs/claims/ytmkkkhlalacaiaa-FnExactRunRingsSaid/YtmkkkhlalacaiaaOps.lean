/- laws.specOps, laws.implOps and (spec.Rings).Fits. Written by genops.py. -/
import Derived.Test.YtmkkkhlalacaiaaOwnO
import Derived.Test.YtmkkkhlalacaiaaSizes
namespace Go.Proofs.Ytmkkkhlalacaiaa
open Go.RowKit
open Go.Proofs.Ytmkkkhlalacaiaa.Rm
set_option linter.unusedVariables false

theorem infoIOp : (Try.prog.info? 47).map (fun i => (i.zero, i.size, i.bytes)) = some (some (.agg #[.string ⟨#[]⟩, .int .u16 0, .int .u16 0, .int .i64 0]), 4, 32) := by kernel_rfl
theorem infoSOp : (Try.prog.info? 37).map (fun i => (i.zero, i.size, i.bytes)) = some (some (.agg #[.string ⟨#[]⟩, .int .u16 0, .int .u16 0, .int .i64 0]), 4, 32) := by kernel_rfl
/-- Calls, in a world behind w. -/
def OpsOut (w : World) (ps : List OpV) (e : Ending) (w' : World) : Prop := ∃ a n c, e = .returned (.slice a n c) ∧ RdO w' a n c ps ∧ Below w.heap.size w w' ∧ ∀ ad, a = some ad → w.heap.size ≤ ad.block ∧ ad.block < w'.heap.size
/-- What the loops keep. -/
structure OpsAt (E : TypeId) (w0 w : World) (v : Value) (ps : List OpV) : Prop where
  own : OwnO E w0.heap.size w v ps
  below : Below w0.heap.size w0 w
theorem OpsAt.alloc {E : TypeId} {w0 w : World} {v : Value} {ps : List OpV} (h : OpsAt E w0 w v ps) (o : Obj) : OpsAt E w0 (w.alloc o) v ps := ⟨h.own.alloc o, h.below.alloc h.below.size o⟩
theorem OpsAt.drew {E : TypeId} {w0 w : World} {v : Value} {ps : List OpV} (h : OpsAt E w0 w v ps) : OpsAt E w0 w.drew v ps := ⟨h.own.drew, below_drewN h.below 1⟩
theorem OpsAt.to {E : TypeId} {w0 w w' : World} {v : Value} {ps : List OpV} (h : OpsAt E w0 w v ps) (hb : Below w.heap.size w w') : OpsAt E w0 w' v ps := ⟨h.own.below hb (Nat.le_refl _), h.below.trans (hb.mono h.below.size)⟩
theorem OpsAt.push {E : TypeId} {w0 w w' : World} {v v' : Value} {ps qs : List OpV} (h : OpsAt E w0 w v ps) (ho : OwnO E w0.heap.size w' v' qs) (hp : Pushed w w' v v') : OpsAt E w0 w' v' qs := ⟨ho, h.below.trans (hp.below h.below.size fun k hk => (h.own.lt hk).1)⟩

set_option maxHeartbeats 400000 in
theorem specOps_calls (w : World) (a : Option Addr) (n c : Nat) (ps : List OpV) (h : RdO w a n c ps) (hn : n ≤ 100000) :
    Calls Try.prog 8 #[.slice a n c] w (OpsOut w ps) := by
  have h' := Lib.hid h
  have hl := Lib.hid h.1
  have hle := h.2.1
  have hc := h.2.2.1
  have h0 : Hid (OpsAt 37 w (w.alloc (.cells #[] 37)) (.slice (some ⟨w.heap.size, 0, none⟩) 0 0) (ps.take 0)) := ⟨OwnO.empty _ _ _ (Nat.le_refl _), (Below.refl _ _).alloc (Nat.le_refl _) _⟩
  clear h
  go_enter Try.func8, Try.ntmps8
  go_wp2
  go_loopw [3, 9] (fun v i wr => ∃ k : Nat, k ≤ n ∧ i = .int .i64 (k : Int) ∧ Hid (OpsAt 37 w wr v (ps.take k))) (fun _ i _ => n - (intOf i).toNat)
  case atStart => exact ⟨0, Nat.zero_le _, rfl, h0⟩
  case round =>
    clear h0
    obtain ⟨k, hk, rfl, hA⟩ := hrel
    by_cases hlt : k < n
    · obtain ⟨p, hpk⟩ : ∃ p, ps[k]? = some p := ⟨_, List.getElem?_eq_getElem (by rw [hl.out]; exact hlt)⟩
      have hx := (h'.out.below hA.out.below (Nat.le_refl _)).2.2.2 k p hpk
      have htk : Hid (ps.take (k + 1) = ps.take k ++ [p]) := by show _ = _; rw [List.take_add_one, hpk]; rfl
      have hlen : (ps.take k).length ≤ 100000 := by have : (ps.take k).length ≤ k := List.length_take_le _ _; omega
      clear hpk
      obtain ⟨b, off, rfl, hb, d0, d1, d2, d3⟩ := hx
      obtain ⟨kd, i, j, z⟩ := p
      simp only at d0 d1 d2 d3
      have hA2 := Lib.hid (hA.out.alloc (.cells #[.string kd, .int .u16 (i : Int), .int .u16 (j : Int), .int .i64 z] 47))
      have o2 := hA2.out.own
      have hs2 := hA2.out.below.size
      generalize ps.take k = qs at hA hA2 htk hlen o2
      clear hA
      go_wp2_with (first
        | (at_builtin; refine wpl_pushO rfl (.tmp 13) (.tmp 23) 26 37 rfl Try.underlying26 infoSOp rfl w.heap.size _ _ [⟨kd, i, j, z⟩] 1 #[.string kd, .int .u16 (i : Int), .int .u16 (j : Int), .int .i64 z] rfl rfl rfl (by simp [Act.eval]) o2 (by unfold maxLen; omega) (by omega) hs2 ?_))
      intro v5 w5 o5 p5
      have hA5 := Lib.hid (hA2.out.push o5 p5)
      rw [← htk.out] at hA5
      clear o5 p5 o2 hs2 hA2 d0 d1 d2 d3
      go_wp2
      go_roundw
      case rel => exact ⟨k + 1, hlt, by go_num, hA5⟩
      case measure => simp [intOf]; omega
    · obtain rfl : k = n := by omega
      have q : ¬ ((k : Int) < (k : Int)) := by omega
      have e : ps.take k = ps := List.take_of_length_le (by rw [hl.out]; exact Nat.le_refl _)
      rw [e] at hA
      clear e
      go_wp2
      go_ret
      obtain ⟨o1, o2⟩ := hA.out
      obtain ⟨a1, c1, rfl, r1⟩ := o1.rd
      exact ⟨_, _, _, rfl, r1, o2, fun ad e => o1.lt (k := ad.block) (by rw [e]; rfl)⟩

set_option maxHeartbeats 400000 in
theorem implOps_calls (w : World) (a : Option Addr) (n c : Nat) (ps : List OpV) (h : RdO w a n c ps) (hn : n ≤ 100000) :
    Calls Try.prog 17 #[.slice a n c] w (OpsOut w ps) := by
  have h' := Lib.hid h
  have hl := Lib.hid h.1
  have hle := h.2.1
  have hc := h.2.2.1
  have h0 : Hid (OpsAt 47 w (w.alloc (.cells #[] 47)) (.slice (some ⟨w.heap.size, 0, none⟩) 0 0) (ps.take 0)) := ⟨OwnO.empty _ _ _ (Nat.le_refl _), (Below.refl _ _).alloc (Nat.le_refl _) _⟩
  clear h
  go_enter Try.func17, Try.ntmps17
  go_wp2
  go_loopw [3, 9] (fun v i wr => ∃ k : Nat, k ≤ n ∧ i = .int .i64 (k : Int) ∧ Hid (OpsAt 47 w wr v (ps.take k))) (fun _ i _ => n - (intOf i).toNat)
  case atStart => exact ⟨0, Nat.zero_le _, rfl, h0⟩
  case round =>
    clear h0
    obtain ⟨k, hk, rfl, hA⟩ := hrel
    by_cases hlt : k < n
    · obtain ⟨p, hpk⟩ : ∃ p, ps[k]? = some p := ⟨_, List.getElem?_eq_getElem (by rw [hl.out]; exact hlt)⟩
      have hx := (h'.out.below hA.out.below (Nat.le_refl _)).2.2.2 k p hpk
      have htk : Hid (ps.take (k + 1) = ps.take k ++ [p]) := by show _ = _; rw [List.take_add_one, hpk]; rfl
      have hlen : (ps.take k).length ≤ 100000 := by have : (ps.take k).length ≤ k := List.length_take_le _ _; omega
      clear hpk
      obtain ⟨b, off, rfl, hb, d0, d1, d2, d3⟩ := hx
      obtain ⟨kd, i, j, z⟩ := p
      simp only at d0 d1 d2 d3
      have hA2 := Lib.hid (hA.out.alloc (.cells #[.string kd, .int .u16 (i : Int), .int .u16 (j : Int), .int .i64 z] 37))
      have o2 := hA2.out.own
      have hs2 := hA2.out.below.size
      generalize ps.take k = qs at hA hA2 htk hlen o2
      clear hA
      go_wp2_with (first
        | (at_builtin; refine wpl_pushO rfl (.tmp 13) (.tmp 23) 23 47 rfl Try.underlying23 infoIOp rfl w.heap.size _ _ [⟨kd, i, j, z⟩] 1 #[.string kd, .int .u16 (i : Int), .int .u16 (j : Int), .int .i64 z] rfl rfl rfl (by simp [Act.eval]) o2 (by unfold maxLen; omega) (by omega) hs2 ?_))
      intro v5 w5 o5 p5
      have hA5 := Lib.hid (hA2.out.push o5 p5)
      rw [← htk.out] at hA5
      clear o5 p5 o2 hs2 hA2 d0 d1 d2 d3
      go_wp2
      go_roundw
      case rel => exact ⟨k + 1, hlt, by go_num, hA5⟩
      case measure => simp [intOf]; omega
    · obtain rfl : k = n := by omega
      have q : ¬ ((k : Int) < (k : Int)) := by omega
      have e : ps.take k = ps := List.take_of_length_le (by rw [hl.out]; exact Nat.le_refl _)
      rw [e] at hA
      clear e
      go_wp2
      go_ret
      obtain ⟨o1, o2⟩ := hA.out
      obtain ⟨a1, c1, rfl, r1⟩ := o1.rd
      exact ⟨_, _, _, rfl, r1, o2, fun ad e => o1.lt (k := ad.block) (by rw [e]; rfl)⟩

/-- Whether a call names elements that there are, and so on. -/
def fitsP (N : Nat) (p : OpV) : Bool := !(decide (N ≤ p.at') || decide (N ≤ p.to) || decide (1000000 < p.n) || decide (p.n < -1000000) || ((p.kind.toList == kUnlink) && decide (p.n < 0)))
def fitsO (N : Nat) (ps : List OpV) : Bool := ps.all (fitsP N)
/-- Calls that name elements by two bytes. -/
def OpsU (ps : List OpV) : Prop := ∀ p, p ∈ ps → p.at' ≤ 65535 ∧ p.to ≤ 65535
theorem OpsOk.u {ps : List OpV} (h : OpsOk ps) : OpsU ps := fun p hp => ⟨(h p hp).1, (h p hp).2.1⟩

set_option maxHeartbeats 1000000 in
theorem fitsO_calls2 (w : World) (a : Option Addr) (n c : Nat) (t : List (List Nat)) (oa : Option Addr) (on oc : Nat) (ps : List OpV) (h : Rr w a n c t) (hb : cnt t ≤ 1000000000) (hp : RdO w oa on oc ps) (hon : on ≤ 100000) (hok : OpsU ps) :
    Calls Try.prog 11 #[.slice a n c, .slice oa on oc] w fun e w' => e = .returned (.bool (fitsO (cnt t) ps)) ∧ Below w.heap.size w w' := by
  have hp' := Lib.hid hp
  have hl := Lib.hid hp.1
  have hle := hp.2.1
  have hc := hp.2.2.1
  have hok' := Lib.hid hok
  have hct := Lib.hid (count_calls w a n c t h hb)
  clear hp hok h
  generalize cnt t = N at hct hb ⊢
  go_enter Try.func11, Try.ntmps11
  go_wp2_with fail
  refine hct.out.mono ?_
  rintro e w' ⟨rfl, rfl⟩
  clear hct
  go_wp2
  go_loopw [12] (fun i wr => ∃ k : Nat, k ≤ on ∧ i = .int .i64 (k : Int) ∧ Hid (Below w.heap.size w wr) ∧ Hid (fitsO N (ps.take k) = true)) (fun i _ => on - (intOf i).toNat)
  case atStart => exact ⟨0, Nat.zero_le _, rfl, Below.refl _ _, rfl⟩
  case round =>
    obtain ⟨k, hk, rfl, hA, hB⟩ := hrel
    by_cases hlt : k < on
    · obtain ⟨p, hpk⟩ : ∃ p, ps[k]? = some p := ⟨_, List.getElem?_eq_getElem (by rw [hl.out]; exact hlt)⟩
      have hx := (hp'.out.below hA.out (Nat.le_refl _)).2.2.2 k p hpk
      have hmem := Lib.hid (List.mem_of_getElem? hpk)
      have hy := hok'.out p hmem.out
      have htk : Hid (ps.take (k + 1) = ps.take k ++ [p]) := by show _ = _; rw [List.take_add_one, hpk]; rfl
      clear hpk
      obtain ⟨b, off, rfl, hb1, d0, d1, d2, d3⟩ := hx
      obtain ⟨q1, q2⟩ := hy
      obtain ⟨kd, i, j, z⟩ := p
      simp only at d0 d1 d2 d3 q1 q2
      have hA2 : Hid (Below w.heap.size w (wr.alloc (.cells #[.string kd, .int .u16 (i : Int), .int .u16 (j : Int), .int .i64 z] 37))) := hA.out.alloc hA.out.size _
      have hfp : Hid (fitsP N ⟨kd, i, j, z⟩ = !(decide (N ≤ i) || decide (N ≤ j) || decide (1000000 < z) || decide (z < -1000000) || ((kd.toList == kUnlink) && decide (z < 0)))) := rfl
      by_cases g1 : N ≤ i
      · have hno : Hid (fitsO N ps = false) := by
          show _ = _
          unfold fitsO
          rw [List.all_eq_false]
          exact ⟨_, hmem.out, by rw [hfp.out]; simp [g1]⟩
        have t1 : decide (N ≤ i) = true := by simpa using g1
        go_wp2
        go_ret
        exact ⟨by rw [hno.out]; rfl, hA2.out⟩
      have t1 : decide (N ≤ i) = false := by simpa using g1
      by_cases g2 : N ≤ j
      · have hno : Hid (fitsO N ps = false) := by
          show _ = _
          unfold fitsO
          rw [List.all_eq_false]
          exact ⟨_, hmem.out, by rw [hfp.out]; simp [g2]⟩
        have t2 : decide (N ≤ j) = true := by simpa using g2
        go_wp2
        go_ret
        exact ⟨by rw [hno.out]; rfl, hA2.out⟩
      have t2 : decide (N ≤ j) = false := by simpa using g2
      by_cases g3 : 1000000 < z
      · have hno : Hid (fitsO N ps = false) := by
          show _ = _
          unfold fitsO
          rw [List.all_eq_false]
          exact ⟨_, hmem.out, by rw [hfp.out]; simp [g3]⟩
        have t3 : decide (1000000 < z) = true := by simpa using g3
        go_wp2
        go_ret
        exact ⟨by rw [hno.out]; rfl, hA2.out⟩
      have t3 : decide (1000000 < z) = false := by simpa using g3
      by_cases g4 : z < -1000000
      · have hno : Hid (fitsO N ps = false) := by
          show _ = _
          unfold fitsO
          rw [List.all_eq_false]
          exact ⟨_, hmem.out, by rw [hfp.out]; simp [g4]⟩
        have t4 : decide (z < -1000000) = true := by simpa using g4
        go_wp2
        go_ret
        exact ⟨by rw [hno.out]; rfl, hA2.out⟩
      have t4 : decide (z < -1000000) = false := by simpa using g4
      by_cases g5 : (kd.toList == [117, 110, 108, 105, 110, 107]) = true
      · by_cases g6 : z < 0
        · have hno : Hid (fitsO N ps = false) := by
            show _ = _
            unfold fitsO
            rw [List.all_eq_false]
            exact ⟨_, hmem.out, by rw [hfp.out]; simp [g5, g6]⟩
          have t6 : decide (z < 0) = true := by simpa using g6
          go_wp2
          go_ret
          exact ⟨by rw [hno.out]; rfl, hA2.out⟩
        · have t6 : decide (z < 0) = false := by simpa using g6
          have hB2 : Hid (fitsO N (ps.take (k + 1)) = true) := by
            show _ = _
            rw [htk.out]
            unfold fitsO
            rw [List.all_append, show (ps.take k).all (fitsP N) = true from hB.out]
            simp [hfp.out, t1, t2, t3, t4, g5, t6]
            try omega
          clear hB
          go_wp2
          go_roundw
          case rel => exact ⟨k + 1, hlt, by go_num, hA2, hB2⟩
          case measure => simp [intOf]; omega
      · have t5 : (kd.toList == [117, 110, 108, 105, 110, 107]) = false := by simpa using g5
        clear g5
        have hB2 : Hid (fitsO N (ps.take (k + 1)) = true) := by
          show _ = _
          rw [htk.out]
          unfold fitsO
          rw [List.all_append, show (ps.take k).all (fitsP N) = true from hB.out]
          simp [hfp.out, t1, t2, t3, t4, t5]
          try omega
        clear hB
        go_wp2
        go_roundw
        case rel => exact ⟨k + 1, hlt, by go_num, hA2, hB2⟩
        case measure => simp [intOf]; omega
    · obtain rfl : k = on := by omega
      have q : ¬ ((k : Int) < (k : Int)) := by omega
      have e : ps.take k = ps := List.take_of_length_le (by rw [hl.out]; exact Nat.le_refl _)
      rw [e] at hB
      clear e
      go_wp2
      go_ret
      exact ⟨by rw [hB.out]; rfl, hA.out⟩

theorem fitsO_calls (w : World) (a : Option Addr) (n c : Nat) (t : List (List Nat)) (oa : Option Addr) (on oc : Nat) (ps : List OpV) (h : Rr w a n c t) (hb : cnt t ≤ 1000000000) (hp : RdO w oa on oc ps) (hon : on ≤ 100000) (hok : OpsOk ps) :
    Calls Try.prog 11 #[.slice a n c, .slice oa on oc] w fun e w' => e = .returned (.bool (fitsO (cnt t) ps)) ∧ Below w.heap.size w w' := fitsO_calls2 w a n c t oa on oc ps h hb hp hon hok.u

end Go.Proofs.Ytmkkkhlalacaiaa

/- impl.RunRings: a script of calls. -/
import Derived.Test.YtmkkkhlalacaiaaCall
import Derived.Test.YtmkkkhlalacaiaaSUnlink
import Derived.Deep.RegionHeld3
import Derived.IntWalk
namespace Go.Proofs.Ytmkkkhlalacaiaa
open Go.RowKit
open Go.Proofs.Ytmkkkhlalacaiaa.Rm
set_option linter.unusedVariables false

/-- A slice of calls that is read. -/
def RdO (w : World) (a : Option Addr) (n c : Nat) (ps : List OpV) : Prop :=
  ps.length = n ∧ n ≤ c ∧ c ≤ 9223372036854775807 ∧ ∀ (i : Nat) p, ps[i]? = some p → ∃ b off, a = some ⟨b, off, none⟩ ∧ b < w.heap.size ∧
    w.cell? ⟨b, off + i * 4, none⟩ = some (.string p.kind) ∧ w.cell? ⟨b, off + i * 4 + 1, none⟩ = some (.int .u16 (p.at' : Int)) ∧ w.cell? ⟨b, off + i * 4 + 2, none⟩ = some (.int .u16 (p.to : Int)) ∧ w.cell? ⟨b, off + i * 4 + 3, none⟩ = some (.int .i64 p.n)
theorem RdO.below {w w' : World} {a : Option Addr} {n c : Nat} {ps : List OpV} {B : Nat} (h : RdO w a n c ps) (hb : Below B w w') (hB : w.heap.size ≤ B) : RdO w' a n c ps := by
  obtain ⟨h1, h2, h3, h4⟩ := h
  refine ⟨h1, h2, h3, fun i p hp => ?_⟩
  obtain ⟨b, off, e, hlt, c0, c1, c2, c3⟩ := h4 i p hp
  have k : ∀ o, w'.cell? ⟨b, o, none⟩ = w.cell? ⟨b, o, none⟩ := fun o => hb.cell (p := ⟨b, o, none⟩) (by show b < B; omega)
  exact ⟨b, off, e, Nat.lt_of_lt_of_le hlt hb.size, by rw [k]; exact c0, by rw [k]; exact c1, by rw [k]; exact c2, by rw [k]; exact c3⟩
/-- A script, done: the results so far and the rings. -/
def runS (N : Nat) (s : List Int × List (List Nat)) (p : OpV) : List Int × List (List Nat) := if p.at' < N ∧ p.to < N then (s.1 ++ [resT s.2 p], stT s.2 p) else (s.1 ++ [-3], s.2)
def runR (N : Nat) (t : List (List Nat)) (ps : List OpV) : List Int × List (List Nat) := ps.foldl (runS N) ([], t)
theorem runR_snoc (N : Nat) (t : List (List Nat)) (ps : List OpV) (p : OpV) : runR N t (ps ++ [p]) = runS N (runR N t ps) p := by unfold runR; rw [List.foldl_append]; rfl
theorem runR_len (N : Nat) (t : List (List Nat)) (ps : List OpV) : (runR N t ps).1.length = ps.length := by
  have : ∀ (ps : List OpV) s, (ps.foldl (runS N) s).1.length = s.1.length + ps.length := by
    intro ps
    induction ps with
    | nil => intro s; rfl
    | cons p ps ih =>
      intro s
      have e : (runS N s p).1.length = s.1.length + 1 := by unfold runS; split <;> simp
      rw [List.foldl_cons, ih, e, List.length_cons]; omega
  have h := this ps ([], t)
  simpa [runR] using h
/-- The next element of each one. -/
def nextsT (N : Nat) (t : List (List Nat)) : List Nat := (List.range N).map fun k => mv t k 1

/-- What the first loop keeps. -/
structure RunAt (w0 w : World) (V v : Value) (N : Nat) (Bk nx pv : Nat → Nat) (s : List Int × List (List Nat)) : Prop where
  made : Mk w0 w V N N Bk nx pv
  rep : Rep N nx s.2
  own : Own 3 w0.heap.size w v (s.1.map (Value.int .i64))
  ne : ∀ k, k < N → v.ownBlock ≠ some (Bk k)
  nv : ∀ g, V.ownBlock = some g → v.ownBlock ≠ some g
theorem RunAt.alloc {w0 w : World} {V v : Value} {N : Nat} {Bk nx pv : Nat → Nat} {s : List Int × List (List Nat)} (h : RunAt w0 w V v N Bk nx pv s) (o : Obj) : RunAt w0 (w.alloc o) V v N Bk nx pv s := by
  have hba : Below w.heap.size w (w.alloc o) := (Below.refl _ _).alloc (Nat.le_refl _) _
  exact ⟨⟨h.made.rg.keep fun q hq => hba.block _ (h.made.rg.lt hq), h.made.own.alloc _, h.made.hi, h.made.ne, h.made.below.alloc h.made.below.size _⟩, h.rep, h.own.alloc _, h.ne, h.nv⟩
theorem RunAt.drew {w0 w : World} {V v : Value} {N : Nat} {Bk nx pv : Nat → Nat} {s : List Int × List (List Nat)} (h : RunAt w0 w V v N Bk nx pv s) : RunAt w0 w.drew V v N Bk nx pv s :=
  ⟨⟨⟨h.made.rg.inv, h.made.rg.inj, h.made.rg.cell⟩, h.made.own.drew, h.made.hi, h.made.ne, below_drewN h.made.below 1⟩, h.rep, h.own.drew, h.ne, h.nv⟩
theorem RunAt.push {w0 w w' : World} {V v v' : Value} {N : Nat} {Bk nx pv : Nat → Nat} {s : List Int × List (List Nat)} {x : Int} (h : RunAt w0 w V v N Bk nx pv s) (ho : Own 3 w0.heap.size w' v' (s.1.map (Value.int .i64) ++ [.int .i64 x])) (hp : Pushed w w' v v') : RunAt w0 w' V v' N Bk nx pv (s.1 ++ [x], s.2) := by
  refine ⟨⟨h.made.rg.keep fun q hq => hp.other (h.made.rg.lt hq) (h.ne q hq), h.made.own.keep fun g hg => hp.other (h.made.own.lt hg).2 (h.nv g hg), h.made.hi, h.made.ne, h.made.below.trans (hp.below h.made.below.size fun g hg => (h.own.lt hg).1)⟩, h.rep, by simpa using ho, fun q hq => hp.ne (h.made.rg.lt hq) (h.ne q hq), fun g hg => hp.ne (h.made.own.lt hg).2 (h.nv g hg)⟩
theorem RunAt.call {w0 w w' : World} {V v : Value} {N : Nat} {Bk nx pv nx' pv' : Nat → Nat} {s : List Int × List (List Nat)} {t : List (List Nat)} (h : RunAt w0 w V v N Bk nx pv s) (hg : Rg w' Bk N nx' pv' (vals N)) (hr : Rep N nx' t) (hb : RB Bk N w.heap.size w w') : RunAt w0 w' V v N Bk nx' pv' (s.1, t) :=
  ⟨h.made.rb hg hb, hr, h.own.keep fun g hg => hb.block g (h.own.lt hg).2 fun q hq e => h.ne q hq (by rw [hg, e]), h.ne, h.nv⟩
/-- What the second loop keeps. -/
structure NxtAt (w0 w : World) (V v v2 : Value) (N : Nat) (Bk nx pv : Nat → Nat) (s : List Int × List (List Nat)) (k : Nat) : Prop where
  run : RunAt w0 w V v N Bk nx pv s
  own2 : Own 3 w0.heap.size w v2 ((nats ((nextsT N s.2).take k)).map (Value.int .i64))
  ne2 : ∀ q, q < N → v2.ownBlock ≠ some (Bk q)
  nv2 : ∀ g, V.ownBlock = some g → v2.ownBlock ≠ some g
  nn : ∀ g, v.ownBlock = some g → v2.ownBlock ≠ some g
theorem NxtAt.start {w0 w : World} {V v : Value} {N : Nat} {Bk nx pv : Nat → Nat} {s : List Int × List (List Nat)} (h : RunAt w0 w V v N Bk nx pv s) : NxtAt w0 (w.alloc (.cells #[] 3)) V v (.slice (some ⟨w.heap.size, 0, none⟩) 0 0) N Bk nx pv s 0 := by
  have hq : (Value.slice (some ⟨w.heap.size, 0, none⟩) 0 0).ownBlock = some w.heap.size := rfl
  refine ⟨h.alloc _, Own.empty 3 w0.heap.size w h.made.below.size, fun q hq' e => ?_, fun g hg e => ?_, fun g hg e => ?_⟩
  · rw [hq] at e
    have := h.made.rg.lt hq'
    simp only [Option.some.injEq] at e
    omega
  · rw [hq] at e
    have := (h.made.own.lt hg).2
    simp only [Option.some.injEq] at e
    omega
  · rw [hq] at e
    have := (h.own.lt hg).2
    simp only [Option.some.injEq] at e
    omega
theorem NxtAt.same {w0 w w' : World} {V v v2 : Value} {N : Nat} {Bk nx pv : Nat → Nat} {s : List Int × List (List Nat)} {k : Nat} (h : NxtAt w0 w V v v2 N Bk nx pv s k) (hg : Rg w' Bk N nx pv (vals N)) (hs : RSame Bk N w w') : NxtAt w0 w' V v v2 N Bk nx pv s k :=
  ⟨h.run.call hg h.run.rep (hs.rb _), h.own2.keep fun g hg => hs.block g fun q hq e => h.ne2 q hq (by rw [hg, e]), h.ne2, h.nv2, h.nn⟩
theorem NxtAt.push {w0 w w' : World} {V v v2 v2' : Value} {N : Nat} {Bk nx pv : Nat → Nat} {s : List Int × List (List Nat)} {k : Nat} (h : NxtAt w0 w V v v2 N Bk nx pv s k) (hk : k < N) (ho : Own 3 w0.heap.size w' v2' ((nats ((nextsT N s.2).take k)).map (Value.int .i64) ++ [.int .i64 (mv s.2 k 1 : Nat)])) (hp : Pushed w w' v2 v2') : NxtAt w0 w' V v v2' N Bk nx pv s (k + 1) := by
  have e : (nextsT N s.2).take (k + 1) = (nextsT N s.2).take k ++ [mv s.2 k 1] := by
    rw [List.take_add_one]
    congr 1
    simp [nextsT, hk]
  refine ⟨⟨⟨h.run.made.rg.keep fun q hq => hp.other (h.run.made.rg.lt hq) (h.ne2 q hq), h.run.made.own.keep fun g hg => hp.other (h.run.made.own.lt hg).2 (h.nv2 g hg), h.run.made.hi, h.run.made.ne, h.run.made.below.trans (hp.below h.run.made.below.size fun g hg => (h.own2.lt hg).1)⟩, h.run.rep, h.run.own.keep fun g hg => hp.other (h.run.own.lt hg).2 (h.nn g hg), h.run.ne, h.run.nv⟩, ?_, fun q hq => hp.ne (h.run.made.rg.lt hq) (h.ne2 q hq), fun g hg => hp.ne (h.run.made.own.lt hg).2 (h.nv2 g hg), fun g hg => hp.ne (h.run.own.lt hg).2 (h.nn g hg)⟩
  rw [e, nats_append, List.map_append]
  exact ho
theorem Mk.cell' {w0 w : World} {c N : Nat} {Bk nx pv : Nat → Nat} {b off : Nat} (h : Mk w0 w (.slice (some ⟨b, off, none⟩) N c) N N Bk nx pv) {i : Nat} (hi : i < N) : w.cell? ⟨b, off + i, none⟩ = some (ptr (Bk i)) := by
  obtain ⟨a1, c1, e, _, _, hat⟩ := h.at
  obtain ⟨b2, o2, e2, hc⟩ := hat i hi
  simp only [Value.slice.injEq] at e
  rw [e2] at e
  simp only [Option.some.injEq, Addr.mk.injEq, and_true] at e
  obtain ⟨⟨rfl, rfl⟩, _⟩ := e
  exact hc
/-- What RunRings comes to. -/
def RunOut (w : World) (l1 l2 : List Int) (e : Ending) (w' : World) : Prop :=
  ∃ a n c a' n' c', e = .returned (.tuple #[.slice a n c, .slice a' n' c']) ∧ Rd .i64 w' a n c l1 ∧ Rd .i64 w' a' n' c' l2 ∧ Below w.heap.size w w'
/-- .. and that its first list lies in new memory. -/
def RunOut2 (w : World) (l1 l2 : List Int) (e : Ending) (w' : World) : Prop :=
  ∃ a n c a' n' c', e = .returned (.tuple #[.slice a n c, .slice a' n' c']) ∧ Rd .i64 w' a n c l1 ∧ Rd .i64 w' a' n' c' l2 ∧ Below w.heap.size w w' ∧ ∀ ad, a = some ad → w.heap.size ≤ ad.block ∧ ad.block < w'.heap.size
/-- The ops that the contract takes. -/
def OpsOk (ps : List OpV) : Prop := ∀ p, p ∈ ps → p.at' ≤ 65535 ∧ p.to ≤ 65535 ∧ -9223372036854775808 ≤ p.n ∧ p.n ≤ 9223372036854775806

set_option maxHeartbeats 1000000 in
theorem run_calls2 (w : World) (a : Option Addr) (n c : Nat) (xs : List Int) (oa : Option Addr) (on oc : Nat) (ps : List OpV) (h : Rd .u16 w a n c xs) (hf : ∀ x ∈ xs, (Lit.int .u16 x).wf = true) (hn : n ≤ 140737488351232) (ht : tot xs ≤ 65536) (hp : RdO w oa on oc ps) (hon : on ≤ 100000) (hok : OpsOk ps) :
    Calls Try.prog 12 #[.slice a n c, .slice oa on oc] w (RunOut2 w (runR (tot xs) (mk xs) ps).1 (nats (nextsT (tot xs) (runR (tot xs) (mk xs) ps).2))) := by
  have hp' := Lib.hid hp
  have hpl := Lib.hid hp.1
  have hple := hp.2.1
  have hpc := hp.2.2.1
  have hok' := Lib.hid hok
  clear hp hok
  go_enter Try.func12, Try.ntmps12
  go_wp2_with fail
  refine (made_calls w a n c xs h hf hn ht).mono ?_
  rintro e w1 ⟨V, Bk, nx0, pv0, rfl, hM, hR⟩
  obtain ⟨a1, c1, rfl, l1, l2, hat⟩ := hM.at
  have hst : Hid (RunAt w (w1.alloc (.cells #[] 3)) (.slice a1 (tot xs) c1) (.slice (some ⟨w1.heap.size, 0, none⟩) 0 0) (tot xs) Bk nx0 pv0 (runR (tot xs) (mk xs) (ps.take 0))) := by
    have hba : Below w1.heap.size w1 (w1.alloc (.cells #[] 3)) := (Below.refl _ _).alloc (Nat.le_refl _) _
    have hMs := hM.below.size
    refine ⟨⟨hM.rg.keep fun q hq => hba.block _ (hM.rg.lt hq), hM.own.alloc _, hM.hi, hM.ne, hM.below.alloc hMs _⟩, hR, Own.empty 3 w.heap.size w1 hMs, fun k hk e => ?_, fun g hg e => ?_⟩
    · have := hM.rg.lt hk
      simp only [Value.ownBlock, Option.some.injEq] at e
      omega
    · have := (hM.own.lt hg).2
      simp only [Value.ownBlock, Option.some.injEq] at e
      omega
  clear hM hR hat h hf
  generalize tot xs = N at *
  generalize mk xs = t0 at *
  go_wp2
  go_loopw [7, 18] (fun v i wr => ∃ k : Nat, k ≤ on ∧ i = .int .i64 (k : Int) ∧ ∃ nx pv, Hid (RunAt w wr (.slice a1 N c1) v N Bk nx pv (runR N t0 (ps.take k)))) (fun _ i _ => on - (intOf i).toNat)
  case atStart => exact ⟨0, Nat.zero_le _, rfl, nx0, pv0, hst⟩
  case round =>
    clear hst
    obtain ⟨k, hk, rfl, nx, pv, hA⟩ := hrel
    by_cases hlt : k < on
    · obtain ⟨p, hpk⟩ : ∃ p, ps[k]? = some p := ⟨_, List.getElem?_eq_getElem (by rw [hpl.out]; exact hlt)⟩
      have hx := (hp'.out.below hA.out.made.below (Nat.le_refl _)).2.2.2 k p hpk
      have hy := hok'.out p (List.mem_of_getElem? hpk)
      have hpk' := Lib.hid hpk
      clear hpk
      obtain ⟨b, off, rfl, hb, d0, d1, d2, d3⟩ := hx
      obtain ⟨q1, q2, q3, q4⟩ := hy
      obtain ⟨kd, i, j, z⟩ := p
      simp only at d0 d1 d2 d3 q1 q2 q3 q4
      have htk : Hid (runR N t0 (ps.take (k + 1)) = runS N (runR N t0 (ps.take k)) ⟨kd, i, j, z⟩) := by
        show _ = _
        rw [List.take_add_one, hpk'.out]; exact runR_snoc _ _ _ _
      have hlen : (runR N t0 (ps.take k)).1.length ≤ 100000 := by rw [runR_len]; have : (ps.take k).length ≤ k := List.length_take_le _ _; omega
      generalize runR N t0 (ps.take k) = s at hA htk hlen
      obtain ⟨av, cv, rfl⟩ := own_len hA.out.own
      simp only [List.length_map] at hA ⊢
      have hA2 := Lib.hid (hA.out.alloc (.cells #[.string kd, .int .u16 (i : Int), .int .u16 (j : Int), .int .i64 z] 47))
      have hlm : (s.1.map (Value.int .i64)).length = s.1.length := List.length_map _
      by_cases hout : N ≤ i ∨ N ≤ j
      · have hrs : Hid (runS N s ⟨kd, i, j, z⟩ = (s.1 ++ [-3], s.2)) := by show _ = _; unfold runS; simp only; rw [if_neg (by omega)]
        have o2 := hA2.out.own
        have hs2 := hA2.out.made.below.size
        clear hA
        by_cases hi : N ≤ i
        · have ti : decide (N ≤ i) = true := by simpa using hi
          clear hout
          go_wp2_with (first
            | (at_builtin; refine wpl_push rfl (.tmp 36) (.tmp 37) 33 3 rfl Try.underlying33 infoIntR rfl w.heap.size _ _ (.int .i64 (-3)) rfl rfl (by simp [Act.eval]) o2 (by rw [hlm]; unfold maxLen; omega) (by rw [hlm]; omega) hs2 ?_))
          intro v5 w5 o5 p5
          have hA5 := Lib.hid (hA2.out.push o5 p5)
          rw [← hrs.out, ← htk.out] at hA5
          clear o5 p5 o2 hs2 hA2 d0 d1 d2 d3
          go_wp2
          go_roundw
          case rel => exact ⟨k + 1, hlt, by go_num, nx, pv, hA5⟩
          case measure => simp [intOf]; omega
        · have ti : decide (N ≤ i) = false := by simpa using hi
          have hj : N ≤ j := by omega
          have tj : decide (N ≤ j) = true := by simpa using hj
          clear hout
          go_wp2_with (first
            | (at_builtin; refine wpl_push rfl (.tmp 36) (.tmp 37) 33 3 rfl Try.underlying33 infoIntR rfl w.heap.size _ _ (.int .i64 (-3)) rfl rfl (by simp [Act.eval]) o2 (by rw [hlm]; unfold maxLen; omega) (by rw [hlm]; omega) hs2 ?_))
          intro v5 w5 o5 p5
          have hA5 := Lib.hid (hA2.out.push o5 p5)
          rw [← hrs.out, ← htk.out] at hA5
          clear o5 p5 o2 hs2 hA2 d0 d1 d2 d3
          go_wp2
          go_roundw
          case rel => exact ⟨k + 1, hlt, by go_num, nx, pv, hA5⟩
          case measure => simp [intOf]; omega
      · have hi : i < N := by omega
        have hj : j < N := by omega
        have ti : decide (N ≤ i) = false := by simpa using hi
        have tj : decide (N ≤ j) = false := by simpa using hj
        have hrs : Hid (runS N s ⟨kd, i, j, z⟩ = (s.1 ++ [resT s.2 ⟨kd, i, j, z⟩], stT s.2 ⟨kd, i, j, z⟩)) := by show _ = _; unfold runS; simp only; rw [if_pos ⟨hi, hj⟩]
        clear hout
        obtain ⟨a9, c9, e9, _, _, hat⟩ := hA2.out.made.at
        obtain ⟨b1, o1, e10, _⟩ := hat i hi
        rw [e10] at e9
        cases e9
        clear hat e10
        have hnew := heap_alloc_new wr (.cells #[.string kd, .int .u16 (i : Int), .int .u16 (j : Int), .int .i64 z] 47)
        have hA3 := hA2.out.drew
        have hop3 : (wr.alloc (.cells #[.string kd, .int .u16 (i : Int), .int .u16 (j : Int), .int .i64 z] 47)).drew.heap[wr.heap.size]? = some (.cells #[.string kd, .int .u16 (i : Int), .int .u16 (j : Int), .int .i64 z] 47 (0, 0)) := hnew
        have hgB : Hid (∀ q, q < N → Bk q < wr.heap.size) := fun q hq => hA.out.made.rg.lt hq
        have hvB : Hid (∀ g, (Value.slice av s.1.length cv).ownBlock = some g → g < wr.heap.size) := fun g hg => (hA.out.own.lt hg).2
        have hS : Hid (∀ (u : World) (v' : Value) (nx' pv' : Nat → Nat) s', RunAt w u (.slice (some ⟨b1, o1, none⟩) N c1) v' N Bk nx' pv' s' → u.heap[wr.heap.size]? = some (.cells #[.string kd, .int .u16 (i : Int), .int .u16 (j : Int), .int .i64 z] 47 (0, 0)) → u.cell? ⟨wr.heap.size, 0, none⟩ = some (.string kd) ∧ u.cell? ⟨wr.heap.size, 1, none⟩ = some (.int .u16 (i : Int)) ∧ u.cell? ⟨wr.heap.size, 2, none⟩ = some (.int .u16 (j : Int)) ∧ u.cell? ⟨wr.heap.size, 3, none⟩ = some (.int .i64 z) ∧ u.cell? ⟨b1, o1 + i, none⟩ = some (ptr (Bk i)) ∧ u.cell? ⟨b1, o1 + j, none⟩ = some (ptr (Bk j))) := by
          intro u v' nx' pv' s' hu ho
          exact ⟨blk_cell (l := [_, _, _, _]) ho rfl, blk_cell (l := [_, _, _, _]) ho rfl, blk_cell (l := [_, _, _, _]) ho rfl, blk_cell (l := [_, _, _, _]) ho rfl, hu.made.cell' hi, hu.made.cell' hj⟩
        have hS3 := hS.out _ _ _ _ _ hA3 hop3
        have hcl := Lib.hid (call_calls (wr.alloc (.cells #[.string kd, .int .u16 (i : Int), .int .u16 (j : Int), .int .i64 z] 47)).drew Bk N nx pv s.2 ⟨kd, i, j, z⟩ hA3.made.rg hA3.rep ht hi hj ⟨q3, q4⟩)
        have hsz3 : Hid (wr.heap.size < (wr.alloc (.cells #[.string kd, .int .u16 (i : Int), .int .u16 (j : Int), .int .i64 z] 47)).drew.heap.size) := blk_lt hop3
        have hii : (i : Int) < (N : Int) := by omega
        have hjj : (j : Int) < (N : Int) := by omega
        have hA3' := Lib.hid hA3
        have hop3' := Lib.hid hop3
        clear hA hA2 hnew hA3 hop3
        go_wp2
        go_region_held3 (fun u => u.cell? ⟨wr.heap.size, 0, none⟩ = some (.string kd) ∧ u.cell? ⟨wr.heap.size, 1, none⟩ = some (.int .u16 (i : Int)) ∧ u.cell? ⟨wr.heap.size, 2, none⟩ = some (.int .u16 (j : Int)) ∧ u.cell? ⟨wr.heap.size, 3, none⟩ = some (.int .i64 z) ∧ u.cell? ⟨b1, o1 + i, none⟩ = some (ptr (Bk i)) ∧ u.cell? ⟨b1, o1 + j, none⟩ = some (ptr (Bk j))) (first | assumption | exact hS3 | exact hS5 | exact hS6 | exact hS7)
          (first
            | (go_at_call 22
               ((with_reducible refine hcl.out.mono ?_)
                rintro e w5 ⟨nx2, pv2, rfl, g5, r5, b5⟩
                have hA5 := hA3'.out.call g5 r5 b5
                have hop5 := (b5.block _ hsz3.out (fun q hq e => by have := hgB.out q hq; omega)).trans hop3'.out
                have hS5 := hS.out _ _ _ _ _ hA5 hop5
                have hS6 := hS.out _ _ _ _ _ (hA5.alloc (.cells #[.int .i64 (resT s.2 ⟨kd, i, j, z⟩)] 3)) ((Below.heap_alloc _ _ _ (blk_lt hop5)).trans hop5)))
            | (refine step_push (w := w5) rfl (.tmp 39) (.tmp 52) 33 3 rfl Try.underlying33 infoIntR rfl w.heap.size _ _ (.int .i64 (resT s.2 ⟨kd, i, j, z⟩)) rfl rfl rfl hA5.own (by rw [hlm]; unfold maxLen; omega) (by rw [hlm]; omega) hA5.made.below.size ?_
               intro v7 w7 o7 p7
               have hA7 := hA5.push o7 p7
               have hop7 := (p7.other (blk_lt hop5) (fun e => by have := hvB.out _ e; omega)).trans hop5
               have hS7 := hS.out _ _ _ _ _ hA7 hop7))
        have hA8 := Lib.hid hA7
        simp only at hA8
        rw [← hrs.out, ← htk.out] at hA8
        clear hS3 hS5 hS6 hS7 hop5 hop7 hA5 hA7 o7 p7 g5 r5 b5 hcl hS hA3' hop3' d0 d1 d2 d3
        go_wp2
        go_roundw
        case rel => exact ⟨k + 1, hlt, by go_num, _, _, hA8⟩
        case measure => simp [intOf]; omega
    · obtain rfl : k = on := by omega
      have q : ¬ ((k : Int) < (k : Int)) := by omega
      have e : ps.take k = ps := List.take_of_length_le (by rw [hpl.out]; exact Nat.le_refl _)
      rw [e] at hA
      clear e
      generalize runR N t0 ps = s at *
      obtain ⟨av, cv, rfl⟩ := own_len hA.out.own
      simp only [List.length_map] at hA ⊢
      have hN0 := Lib.hid (NxtAt.start hA.out)
      clear hA
      go_wp2
      go_loopw [10, 58] (fun v2 i wq => ∃ r : Nat, r ≤ N ∧ i = .int .i64 (r : Int) ∧ Hid (NxtAt w wq (.slice a1 N c1) (.slice av s.1.length cv) v2 N Bk nx pv s r)) (fun _ i _ => N - (intOf i).toNat)
      case atStart => exact ⟨0, Nat.zero_le _, rfl, hN0⟩
      case round =>
        clear hN0
        obtain ⟨r, hr, rfl, hA⟩ := hrel
        by_cases hrl : r < N
        · obtain ⟨a9, c9, e9, _, _, hat⟩ := hA.out.run.made.at
          obtain ⟨b1, o1, e10, hc⟩ := hat r hrl
          rw [e10] at e9
          cases e9
          clear hat e10
          obtain ⟨av2, cv2, rfl⟩ := own_len hA.out.own2
          have hl2 : ((nats ((nextsT N s.2).take r)).map (Value.int .i64)).length = r := by simp [nats, nextsT]; omega
          rw [hl2] at hA ⊢
          go_wp2_with fail
          refine (next_calls _ Bk N nx pv _ r hA.out.run.made.rg hrl).mono ?_
          rintro e w6 ⟨rfl, g6, _, s6⟩
          have hA6 := Lib.hid (hA.out.same g6 s6)
          have hix := Lib.hid (g6.index (g6.inv.nlt r hrl))
          have hnx := Lib.hid (hA.out.run.rep.next g6.inv hrl)
          have o6 := hA6.out.own2
          have hs6 := hA6.out.run.made.below.size
          clear g6 s6 hA hc
          go_wp2_with (first
            | (at_builtin; refine wpl_push rfl (.tmp 62) (.tmp 66) 33 3 rfl Try.underlying33 infoIntR rfl w.heap.size _ _ (.int .i64 ((nx r : Nat) : Int)) rfl rfl rfl o6 (by rw [hl2]; unfold maxLen; omega) (by rw [hl2]; omega) hs6 ?_)
            | (refine hix.out.mono ?_; rintro e w3 ⟨rfl, rfl⟩))
          intro v7 w7 o7 p7
          rw [hnx.out] at o7
          have hA7 := Lib.hid (hA6.out.push hrl o7 p7)
          clear o7 p7 o6 hs6 hl2 hix
          go_wp2
          go_roundw
          case rel => exact ⟨r + 1, hrl, by go_num, hA7⟩
          case measure => simp [intOf]; omega
        · obtain rfl : r = N := by omega
          have q2 : ¬ ((r : Int) < (r : Int)) := by omega
          go_wp2
          go_ret2
          obtain ⟨k1, k2, k3, k4, k5⟩ := hA.out
          have e2 : (nextsT r s.2).take r = nextsT r s.2 := List.take_of_length_le (by simp [nextsT])
          rw [e2] at k2
          obtain ⟨a5, n5, c5, e5, r5⟩ := k1.own.rd
          obtain ⟨a6, n6, c6, rfl, r6⟩ := k2.rd
          cases e5
          exact ⟨_, _, _, _, _, _, rfl, r5, r6, k1.made.below, fun ad e => k1.own.lt (k := ad.block) (by rw [e]; rfl)⟩

theorem run_calls (w : World) (a : Option Addr) (n c : Nat) (xs : List Int) (oa : Option Addr) (on oc : Nat) (ps : List OpV) (h : Rd .u16 w a n c xs) (hf : ∀ x ∈ xs, (Lit.int .u16 x).wf = true) (hn : n ≤ 140737488351232) (ht : tot xs ≤ 65536) (hp : RdO w oa on oc ps) (hon : on ≤ 100000) (hok : OpsOk ps) :
    Calls Try.prog 12 #[.slice a n c, .slice oa on oc] w (RunOut w (runR (tot xs) (mk xs) ps).1 (nats (nextsT (tot xs) (runR (tot xs) (mk xs) ps).2))) := by
  refine (run_calls2 w a n c xs oa on oc ps h hf hn ht hp hon hok).mono ?_
  rintro e w' ⟨a, n, c, a', n', c', h1, h2, h3, h4, _⟩
  exact ⟨a, n, c, a', n', c', h1, h2, h3, h4⟩

end Go.Proofs.Ytmkkkhlalacaiaa

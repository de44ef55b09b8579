/- impl.Link and impl.Unlink. -/
import Derived.Test.YtbkclmkncenaeaaWalk
import Derived.Test.YtbkclmkncenaeaaUnl
import Derived.Deep.RegionHeld3
import Derived.IntWalk
namespace Go.Proofs.Ytbkclmkncenaeaa
open Go.RowKit
open Go.Proofs.Ytbkclmkncenaeaa.Rm
set_option linter.unusedVariables false

/-- A number and two lists. -/
def LinkOut (w : World) (k : Int) (l1 l2 : List Int) (e : Ending) (w' : World) : Prop :=
  ∃ a n c a' n' c', e = .returned (.tuple #[.int .i64 k, .slice a n c, .slice a' n' c']) ∧ Rd .i64 w' a n c l1 ∧ Rd .i64 w' a' n' c' l2 ∧ Below w.heap.size w w'
theorem rd_empty (w : World) (g : Nat) : Rd .i64 w (some ⟨g, 0, none⟩) 0 0 [] := Rd.mk' rfl (Nat.le_refl _) (by unfold maxLen; omega) (fun h => by omega) (fun i hi => by omega)

theorem Mk.cell {w0 w : World} {a : Option Addr} {c N : Nat} {Bk nx pv : Nat → Nat} {b off : Nat} (h : Mk w0 w (.slice (some ⟨b, off, none⟩) N c) N N Bk nx pv) {i : Nat} (hi : i < N) : w.cell? ⟨b, off + i, none⟩ = some (ptr (Bk i)) := by
  obtain ⟨a1, c1, e, _, _, hat⟩ := h.at
  obtain ⟨b2, o2, e2, hc⟩ := hat i hi
  simp only [Value.slice.injEq] at e
  rw [e2] at e
  simp only [Option.some.injEq, Addr.mk.injEq, and_true] at e
  obtain ⟨⟨rfl, rfl⟩, _⟩ := e
  exact hc
theorem Mk.drew {w0 w : World} {v : Value} {N cnt : Nat} {Bk nx pv : Nat → Nat} (h : Mk w0 w v N cnt Bk nx pv) : Mk w0 w.drew v N cnt Bk nx pv := ⟨⟨h.rg.inv, h.rg.inj, h.rg.cell⟩, h.own.drew, h.hi, h.ne, below_drewN h.below 1⟩

/-- walk on made elements. -/
theorem Mk.walk {w0 u : World} {v : Value} {N : Nat} {Bk nx pv : Nat → Nat} {t : List (List Nat)} (hM : Mk w0 u v N N Bk nx pv) (hR : Rep N nx t) (hN : N ≤ 65536) {k : Nat} (hk : k < N) :
    Calls Try.prog 33 #[ptr (Bk k)] u fun e u' => ∃ a n c, e = .returned (.slice a n c) ∧ Rd .i64 u' a n c (nats (from' t k)) ∧ (∀ ad, a = some ad → u.heap.size ≤ ad.block ∧ ad.block < u'.heap.size) ∧ Mk w0 u' v N N Bk nx pv ∧ RB Bk N u.heap.size u u' := by
  refine (walk_calls u Bk N nx pv k _ hM.rg hk (hR.from_ring hk) (Nat.le_trans (hR.len_le hk) hN)).mono ?_
  rintro e u' ⟨a, n, c, rfl, r, f, g, b⟩
  exact ⟨a, n, c, rfl, r, f, hM.rb g b, b⟩
theorem Mk.walk_nil {w0 u : World} {v : Value} {N : Nat} {Bk nx pv : Nat → Nat} (hM : Mk w0 u v N N Bk nx pv) :
    Calls Try.prog 33 #[.pointer none] u fun e u' => ∃ a n c, e = .returned (.slice a n c) ∧ Rd .i64 u' a n c [] ∧ (∀ ad, a = some ad → u.heap.size ≤ ad.block ∧ ad.block < u'.heap.size) ∧ Mk w0 u' v N N Bk nx pv ∧ RB Bk N u.heap.size u u' := by
  refine (Go.Proofs.Ytbkclmkncenaeaa.walk_nil u Bk N nx pv hM.rg).mono ?_
  rintro e u' ⟨a, n, c, rfl, r, f, g, b⟩
  exact ⟨a, n, c, rfl, r, f, hM.rb g b, b⟩
/-- A list that was made outside of the rings stays. -/
theorem Rd.walked {w0 x u u' : World} {v : Value} {N : Nat} {Bk nx pv : Nat → Nat} {a : Option Addr} {n c : Nat} {l : List Int} (h : Rd .i64 u a n c l) (hM : Mk w0 x v N N Bk nx pv) (hf : ∀ ad, a = some ad → x.heap.size ≤ ad.block ∧ ad.block < u.heap.size) (hb : RB Bk N u.heap.size u u') : Rd .i64 u' a n c l :=
  h.rb hb fun ad e => ⟨(hf ad e).2, fun i hi => by have := hM.rg.lt hi; have := (hf ad e).1; omega⟩

theorem iLink_out (w : World) (a : Option Addr) (n c : Nat) (xs : List Int) (i j : Nat) (h : Rd .u16 w a n c xs) (hf : ∀ x ∈ xs, (Lit.int .u16 x).wf = true) (hn : n ≤ 140737488351232) (ht : tot xs ≤ 65536) (hi2 : i ≤ 65535) (hj2 : j ≤ 65535) (hi : tot xs ≤ i ∨ tot xs ≤ j) :
    Calls Try.prog 17 #[.slice a n c, .int .u16 (i : Int), .int .u16 (j : Int)] w (LinkOut w (-3) [] []) := by
  go_enter Try.func17, Try.ntmps17
  go_wp2_with fail
  refine (made_calls w a n c xs h hf hn ht).mono ?_
  rintro e w1 ⟨v, Bk, nx, pv, rfl, hM, hR⟩
  obtain ⟨a1, c1, rfl, l1, l2, hat⟩ := hM.at
  have hb := hM.below
  clear hM hR hat h hf
  have hb1 : Hid (Below w.heap.size w ((w1.alloc (.cells #[] 3)).alloc (.cells #[] 3))) := (hb.alloc hb.size _).alloc (Nat.le_trans hb.size (by simp)) _
  clear hb
  by_cases hc : tot xs ≤ i
  · have t1 : decide (tot xs ≤ i) = true := by simpa using hc
    clear hi
    go_wp2
    refine bodyPost_ret (v := .tuple #[.int .i64 (-3), .slice (some ⟨w1.heap.size, 0, none⟩) 0 0, .slice (some ⟨w1.heap.size + 1, 0, none⟩) 0 0]) (by simp [results, Try.results17, go_sem]) rfl ?_
    exact ⟨_, _, _, _, _, _, rfl, rd_empty _ _, rd_empty _ _, hb1.out⟩
  · have hd : tot xs ≤ j := by omega
    have t1 : decide (tot xs ≤ i) = false := by simpa using hc
    have t2 : decide (tot xs ≤ j) = true := by simpa using hd
    clear hi
    go_wp2
    refine bodyPost_ret (v := .tuple #[.int .i64 (-3), .slice (some ⟨w1.heap.size, 0, none⟩) 0 0, .slice (some ⟨w1.heap.size + 1, 0, none⟩) 0 0]) (by simp [results, Try.results17, go_sem]) rfl ?_
    exact ⟨_, _, _, _, _, _, rfl, rd_empty _ _, rd_empty _ _, hb1.out⟩

set_option maxHeartbeats 1000000 in
theorem iLink_in (w : World) (a : Option Addr) (n c : Nat) (xs : List Int) (i j : Nat) (h : Rd .u16 w a n c xs) (hf : ∀ x ∈ xs, (Lit.int .u16 x).wf = true) (hn : n ≤ 140737488351232) (ht : tot xs ≤ 65536) (hi2 : i ≤ 65535) (hj2 : j ≤ 65535) (hi : i < tot xs) (hj : j < tot xs) :
    Calls Try.prog 17 #[.slice a n c, .int .u16 (i : Int), .int .u16 (j : Int)] w (LinkOut w (mv (mk xs) i 1 : Nat) (nats (from' (link (mk xs) i j) i)) (nats (from' (link (mk xs) i j) (mv (mk xs) i 1)))) := by
  go_enter Try.func17, Try.ntmps17
  go_wp2_with fail
  refine (made_calls w a n c xs h hf hn ht).mono ?_
  rintro e w1 ⟨v, Bk, nx, pv, rfl, hM, hR⟩
  obtain ⟨a1, c1, rfl, l1, l2, hat⟩ := hM.at
  obtain ⟨b, off, rfl, hci⟩ := hat i hi
  have hcj := hM.cell (a := none) hj
  have hR2 := Lib.hid (hR.link hM.rg.inv hi hj)
  have hnx := Lib.hid (hR.next hM.rg.inv hi)
  have hni := hM.rg.inv.nlt i hi
  have hM' := Lib.hid hM
  clear h hf hat hM hR
  have t1 : decide (tot xs ≤ i) = false := by simpa using hi
  have t2 : decide (tot xs ≤ j) = false := by simpa using hj
  generalize tot xs = N at *
  have hii : (i : Int) < (N : Int) := by omega
  have hjj : (j : Int) < (N : Int) := by omega
  have hlk : Hid (∀ u, Mk w u (.slice (some ⟨b, off, none⟩) N c1) N N Bk nx pv → Calls Try.prog 36 #[ptr (Bk i), ptr (Bk j)] u fun e u' => e = .returned (ptr (Bk (nx i))) ∧ Mk w u' (.slice (some ⟨b, off, none⟩) N c1) N N Bk (lnx nx pv i j) (lpv nx pv i j)) := by
    intro u hu
    refine (link_calls u Bk N nx pv _ i j hu.rg hi hj).mono ?_
    rintro e u' ⟨rfl, g, s⟩
    exact ⟨rfl, hu.rb g (s.rb _)⟩
  have hS0 : w1.drew.cell? ⟨b, off + i, none⟩ = some (ptr (Bk i)) ∧ w1.drew.cell? ⟨b, off + j, none⟩ = some (ptr (Bk j)) := ⟨hci, hcj⟩
  have hM1 := hM'.out.drew
  go_wp2
  go_region_held3 (fun u => u.cell? ⟨b, off + i, none⟩ = some (ptr (Bk i)) ∧ u.cell? ⟨b, off + j, none⟩ = some (ptr (Bk j))) (first | assumption | exact ⟨hM2.cell (a := none) hi, hM2.cell (a := none) hj⟩)
    (first
      | (go_at_call 36; ((with_reducible refine (hlk.out _ hM1).mono ?_); rintro e w2 ⟨rfl, hM2⟩)))
  clear hS0 hM1 hlk hci hcj
  have hM2' := Lib.hid hM2
  clear hM2 hM'
  generalize hnn : nx i = ni at *
  generalize lnx nx pv i j = nx2 at hR2 hM2'
  generalize lpv nx pv i j = pv2 at hM2'
  have hnn' := Lib.hid hnn
  clear hnn
  have hix : Hid (∀ u, Mk w u (.slice (some ⟨b, off, none⟩) N c1) N N Bk nx2 pv2 → Calls Try.prog 32 #[ptr (Bk ni)] u fun e u' => e = .returned (.int .i64 (ni : Int)) ∧ u = u') := fun u hu => hu.rg.index hni
  have hM3 := hM2'.out.drew
  have hS0 : w2.drew.cell? ⟨b, off + i, none⟩ = some (ptr (Bk i)) ∧ Mk w w2.drew (.slice (some ⟨b, off, none⟩) N c1) N N Bk nx2 pv2 := ⟨hM3.cell (a := none) hi, hM3⟩
  go_wp2
  go_region_held3 (fun u => u.cell? ⟨b, off + i, none⟩ = some (ptr (Bk i)) ∧ Mk w u (.slice (some ⟨b, off, none⟩) N c1) N N Bk nx2 pv2) (first | assumption | exact ⟨hM6.cell (a := none) hi, hM6⟩ | exact ⟨hM5.cell (a := none) hi, hM5⟩)
    (first
      | (go_at_call 32; ((with_reducible refine (hix.out _ hM3).mono ?_); rintro e w4 ⟨rfl, rfl⟩))
      | (go_at_call 33; ((with_reducible refine (hM3.walk hR2.out ht hi).mono ?_); rintro e w5 ⟨a5, n5, c5, rfl, r5, f5, hM5, b5⟩))
      | (go_at_call 33; ((with_reducible refine (hM5.walk hR2.out ht hni).mono ?_); rintro e w6 ⟨a6, n6, c6, rfl, r6, f6, hM6, b6⟩)))
  have r7 := Lib.hid (r5.walked hM3 f5 b6)
  have r6' := Lib.hid r6
  have hb6 := Lib.hid hM6.below
  clear hS0 hM3 hM5 hM6 r5 r6 f5 f6 b5 b6 hix
  go_wp2
  refine bodyPost_ret (v := .tuple #[.int .i64 (ni : Int), .slice a5 n5 c5, .slice a6 n6 c6]) (by simp [results, Try.results17, go_sem]) rfl ?_
  rw [← hnx.out]
  exact ⟨_, _, _, _, _, _, rfl, r7.out, r6'.out, hb6.out⟩

theorem iUnlink_out (w : World) (a : Option Addr) (n c : Nat) (xs : List Int) (i : Nat) (z : Int) (h : Rd .u16 w a n c xs) (hf : ∀ x ∈ xs, (Lit.int .u16 x).wf = true) (hn : n ≤ 140737488351232) (ht : tot xs ≤ 65536) (hi2 : i ≤ 65535) (hi : tot xs ≤ i) :
    Calls Try.prog 14 #[.slice a n c, .int .u16 (i : Int), .int .i64 z] w (LinkOut w (-3) [] []) := by
  go_enter Try.func14, Try.ntmps14
  go_wp2_with fail
  refine (made_calls w a n c xs h hf hn ht).mono ?_
  rintro e w1 ⟨v, Bk, nx, pv, rfl, hM, hR⟩
  obtain ⟨a1, c1, rfl, l1, l2, hat⟩ := hM.at
  have hb := hM.below
  clear hM hR hat h hf
  have hb1 : Hid (Below w.heap.size w ((w1.alloc (.cells #[] 3)).alloc (.cells #[] 3))) := (hb.alloc hb.size _).alloc (Nat.le_trans hb.size (by simp)) _
  clear hb
  have t1 : decide (tot xs ≤ i) = true := by simpa using hi
  go_wp2
  refine bodyPost_ret (v := .tuple #[.int .i64 (-3), .slice (some ⟨w1.heap.size, 0, none⟩) 0 0, .slice (some ⟨w1.heap.size + 1, 0, none⟩) 0 0]) (by simp [results, Try.results14, go_sem]) rfl ?_
  exact ⟨_, _, _, _, _, _, rfl, rd_empty _ _, rd_empty _ _, hb1.out⟩

set_option maxHeartbeats 1000000 in
theorem iUnlink_none (w : World) (a : Option Addr) (n c : Nat) (xs : List Int) (i : Nat) (z : Int) (h : Rd .u16 w a n c xs) (hf : ∀ x ∈ xs, (Lit.int .u16 x).wf = true) (hn : n ≤ 140737488351232) (ht : tot xs ≤ 65536) (hi2 : i ≤ 65535) (hi : i < tot xs) (hz : z ≤ 0) :
    Calls Try.prog 14 #[.slice a n c, .int .u16 (i : Int), .int .i64 z] w (LinkOut w (-1) (nats (from' (mk xs) i)) []) := by
  go_enter Try.func14, Try.ntmps14
  go_wp2_with fail
  refine (made_calls w a n c xs h hf hn ht).mono ?_
  rintro e w1 ⟨v, Bk, nx, pv, rfl, hM, hR⟩
  obtain ⟨a1, c1, rfl, l1, l2, hat⟩ := hM.at
  obtain ⟨b, off, rfl, hci⟩ := hat i hi
  have hM' := Lib.hid hM
  have hR2 := Lib.hid hR
  clear h hf hat hM hR
  have t1 : decide (tot xs ≤ i) = false := by simpa using hi
  generalize tot xs = N at *
  have hii : (i : Int) < (N : Int) := by omega
  go_wp2_with fail
  refine (unlink_none w1 (Bk i) z hz).mono ?_
  rintro e w2 ⟨rfl, rfl⟩
  clear hci
  have hix : Hid (∀ u, Calls Try.prog 32 #[.pointer none] u fun e u' => e = .returned (.int .i64 (-1)) ∧ u = u') := fun u => index_nil u
  have hM3 := hM'.out.drew
  have hS0 : w1.drew.cell? ⟨b, off + i, none⟩ = some (ptr (Bk i)) ∧ Mk w w1.drew (.slice (some ⟨b, off, none⟩) N c1) N N Bk nx pv := ⟨hM3.cell (a := none) hi, hM3⟩
  go_wp2
  go_region_held3 (fun u => u.cell? ⟨b, off + i, none⟩ = some (ptr (Bk i)) ∧ Mk w u (.slice (some ⟨b, off, none⟩) N c1) N N Bk nx pv) (first | assumption | exact ⟨hM6.cell (a := none) hi, hM6⟩ | exact ⟨hM5.cell (a := none) hi, hM5⟩)
    (first
      | (go_at_call 32; ((with_reducible refine (hix.out _).mono ?_); rintro e w4 ⟨rfl, rfl⟩))
      | (go_at_call 33; ((with_reducible refine (hM3.walk hR2.out ht hi).mono ?_); rintro e w5 ⟨a5, n5, c5, rfl, r5, f5, hM5, b5⟩))
      | (go_at_call 33; ((with_reducible refine hM5.walk_nil.mono ?_); rintro e w6 ⟨a6, n6, c6, rfl, r6, f6, hM6, b6⟩)))
  have r7 := Lib.hid (r5.walked hM3 f5 b6)
  have r6' := Lib.hid r6
  have hb6 := Lib.hid hM6.below
  clear hS0 hM3 hM5 hM6 r5 r6 f5 f6 b5 b6 hix
  go_wp2
  refine bodyPost_ret (v := .tuple #[.int .i64 (-1), .slice a5 n5 c5, .slice a6 n6 c6]) (by simp [results, Try.results14, go_sem]) rfl ?_
  exact ⟨_, _, _, _, _, _, rfl, r7.out, r6'.out, hb6.out⟩

set_option maxHeartbeats 1000000 in
theorem iUnlink_in (w : World) (a : Option Addr) (n c : Nat) (xs : List Int) (i z : Nat) (h : Rd .u16 w a n c xs) (hf : ∀ x ∈ xs, (Lit.int .u16 x).wf = true) (hn : n ≤ 140737488351232) (ht : tot xs ≤ 65536) (hi2 : i ≤ 65535) (hi : i < tot xs) (hz : 0 < z) (hz2 : z ≤ 1000000) :
    Calls Try.prog 14 #[.slice a n c, .int .u16 (i : Int), .int .i64 (z : Int)] w (LinkOut w (mv (mk xs) i 1 : Nat) (nats (from' (unlink (mk xs) i z) i)) (nats (from' (unlink (mk xs) i z) (mv (mk xs) i 1)))) := by
  go_enter Try.func14, Try.ntmps14
  go_wp2_with fail
  refine (made_calls w a n c xs h hf hn ht).mono ?_
  rintro e w1 ⟨v, Bk, nx, pv, rfl, hM, hR⟩
  obtain ⟨a1, c1, rfl, l1, l2, hat⟩ := hM.at
  obtain ⟨b, off, rfl, hci⟩ := hat i hi
  have hR2 := Lib.hid (hR.unlinked hM.rg.inv hi z)
  have hnx := Lib.hid (hR.next hM.rg.inv hi)
  have hmv := Lib.hid (hR.moved_eq hM.rg.inv hi ((z : Int) + 1))
  have hni := hM.rg.inv.nlt i hi
  have hM' := Lib.hid hM
  clear h hf hat hM hR
  have t1 : decide (tot xs ≤ i) = false := by simpa using hi
  generalize tot xs = N at *
  have hii : (i : Int) < (N : Int) := by omega
  go_wp2_with fail
  refine (unlink_calls w1 Bk N nx pv _ i (z : Int) hM'.out.rg hi (by omega)).mono ?_
  rintro e w2 ⟨rfl, hg2, hs2⟩
  rw [hmv.out] at hg2
  have hM2' := Lib.hid (hM'.out.rb hg2 (hs2.rb _))
  clear hg2 hs2 hM' hci
  generalize hnn : nx i = ni at *
  generalize lnx nx pv i (mv (mk xs) i ((z : Int) + 1)) = nx2 at hR2 hM2'
  generalize lpv nx pv i (mv (mk xs) i ((z : Int) + 1)) = pv2 at hM2'
  have hnn' := Lib.hid hnn
  clear hnn
  have hix : Hid (∀ u, Mk w u (.slice (some ⟨b, off, none⟩) N c1) N N Bk nx2 pv2 → Calls Try.prog 32 #[ptr (Bk ni)] u fun e u' => e = .returned (.int .i64 (ni : Int)) ∧ u = u') := fun u hu => hu.rg.index hni
  have hM3 := hM2'.out.drew
  have hS0 : w2.drew.cell? ⟨b, off + i, none⟩ = some (ptr (Bk i)) ∧ Mk w w2.drew (.slice (some ⟨b, off, none⟩) N c1) N N Bk nx2 pv2 := ⟨hM3.cell (a := none) hi, hM3⟩
  go_wp2
  go_region_held3 (fun u => u.cell? ⟨b, off + i, none⟩ = some (ptr (Bk i)) ∧ Mk w u (.slice (some ⟨b, off, none⟩) N c1) N N Bk nx2 pv2) (first | assumption | exact ⟨hM6.cell (a := none) hi, hM6⟩ | exact ⟨hM5.cell (a := none) hi, hM5⟩)
    (first
      | (go_at_call 32; ((with_reducible refine (hix.out _ hM3).mono ?_); rintro e w4 ⟨rfl, rfl⟩))
      | (go_at_call 33; ((with_reducible refine (hM3.walk hR2.out ht hi).mono ?_); rintro e w5 ⟨a5, n5, c5, rfl, r5, f5, hM5, b5⟩))
      | (go_at_call 33; ((with_reducible refine (hM5.walk hR2.out ht hni).mono ?_); rintro e w6 ⟨a6, n6, c6, rfl, r6, f6, hM6, b6⟩)))
  have r7 := Lib.hid (r5.walked hM3 f5 b6)
  have r6' := Lib.hid r6
  have hb6 := Lib.hid hM6.below
  clear hS0 hM3 hM5 hM6 r5 r6 f5 f6 b5 b6 hix
  go_wp2
  refine bodyPost_ret (v := .tuple #[.int .i64 (ni : Int), .slice a5 n5 c5, .slice a6 n6 c6]) (by simp [results, Try.results14, go_sem]) rfl ?_
  rw [← hnx.out]
  exact ⟨_, _, _, _, _, _, rfl, r7.out, r6'.out, hb6.out⟩

end Go.Proofs.Ytbkclmkncenaeaa

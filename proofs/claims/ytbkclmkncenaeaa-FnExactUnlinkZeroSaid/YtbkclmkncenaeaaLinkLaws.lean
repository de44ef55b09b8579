/- The laws FnExactLink, FnExactUnlink, FnExactUnlinkRing and FnExactUnlinkZero, walked. Written by genlinklaws.py. -/
import Derived.Test.YtbkclmkncenaeaaILink
import Derived.Test.YtbkclmkncenaeaaSUnlink
import Derived.Test.YtbkclmkncenaeaaUse
import Derived.Test.YtbkclmkncenaeaaSame
namespace Go.Proofs.Ytbkclmkncenaeaa
open Go.RowKit
open Go.Proofs.Ytbkclmkncenaeaa.Rm
set_option linter.unusedVariables false

theorem link_length (t : List (List Nat)) (a b : Nat) : (Rm.link t a b).length ≤ t.length + 2 := by
  have h := others_length t a b
  have key : ∀ (p : Prop) [Decidable p] (l : List Nat), (if p then ([] : List (List Nat)) else [l]).length ≤ 1 := by
    intro p _ l; split <;> simp
  unfold Rm.link
  simp only
  split
  · rw [List.length_append, List.length_append]
    have := key ((List.drop 1 (List.take (if a = b then (from' t a).length else List.idxOf b (from' t a)) (from' t a))) = []) (List.drop 1 (List.take (if a = b then (from' t a).length else List.idxOf b (from' t a)) (from' t a)))
    simp only [List.length_cons, List.length_nil] at this ⊢
    omega
  · simp only [List.length_append, List.length_cons, List.length_nil]; omega
theorem Rr.fromB {w : World} {a : Option Addr} {n c : Nat} {t : List (List Nat)} {N : Nat} {nx : Nat → Nat} (h : Rr w a n c t) (hR : Rep N nx t) (hN : N ≤ 65536) (hn : t.length ≤ 100000) {i : Nat} (hi : i < N) (u : World) (hu : Below w.heap.size w u) :
    Calls Try.prog 26 #[.slice a n c, .int .i64 (i : Int)] u (ListB w (nats (from' t i))) :=
  (from_calls u a n c t i (h.below hu (Nat.le_refl _)) (by rw [← h.1]; exact hn) (fun l hl => by have := hR.len_mem hl; omega) (by omega)).mono fun e w' q => listB hu q
theorem Rd.sameB {w : World} {a : Option Addr} {n c : Nat} {l : List Int} (h : Rd .i64 w a n c l) (u : World) (hu : Below w.heap.size w u) (a' : Option Addr) (n' c' : Nat) (l' : List Int) (h' : Rd .i64 u a' n' c' l') :
    Calls Try.prog 18 #[.slice a n c, .slice a' n' c'] u fun e u' => e = .returned (.bool (decide (l = l'))) ∧ Below w.heap.size w u' :=
  (same_calls a a' n c n' c' l l' u (h.below hu (Nat.le_refl _)) h').mono fun e w' q => ⟨q.1, hu.trans (q.2.mono hu.size)⟩
theorem Rep.head {N : Nat} {nx : Nat → Nat} {t : List (List Nat)} (h : Rep N nx t) {i : Nat} (hi : i < N) : (nats (from' t i)).getD 0 0 = (i : Int) := by
  have r := h.from_ring hi
  rw [nats_getD _ _ r.pos]
  have := r.path.get 0 r.pos
  rw [List.getElem?_eq_getElem r.pos] at this
  simp only [Option.some.injEq] at this
  rw [this]; rfl

set_option maxHeartbeats 1000000 in
theorem fnExactLink_walk (a0 : Option Addr) (n0 c0 : Nat) (x0 : List Int) (m1 : Nat) (m2 : Nat) (w : World) (h0 : Rd .u16 w a0 n0 c0 x0) (f0 : ∀ x ∈ x0, (Lit.int .u16 x).wf = true) (s0 : c0 * 2 ≤ 140737488351232) (h1 : m1 ≤ 65535) (h2 : m2 ≤ 65535) :
    Calls Try.prog 6 #[.slice a0 n0 c0, .int .u16 (m1 : Int), .int .u16 (m2 : Int)] w fun e w' => e = .returned (.bool true) ∧ Below w.heap.size w w' := by
  have hnot : ∀ (x : Bool) (w : World), (Op.unary .not (.bool x)).run Try.prog w = .ok (.bool (!x)) w := fun _ _ => rfl
  have n0' : n0 ≤ 140737488351232 := by have := h0.le; omega
  have h0' := Lib.hid h0
  have f0' := Lib.hid f0
  clear h0 f0 s0
  go_enter Try.func6, Try.ntmps6
  go_wp2_with fail
  refine (fits_calls w a0 n0 c0 x0 m1 h0'.out f0'.out n0' h1).mono ?_
  rintro e w1 ⟨rfl, rfl⟩
  by_cases hno : fitsB x0 m1 = false
  · rw [hno]
    clear hno
    go_wp2
    go_ret
    exact ⟨rfl, Below.refl _ _⟩
  have hfit : fitsB x0 m1 = true := by simpa using hno
  clear hno
  rw [hfit]
  simp only [fitsB, Bool.and_eq_true, decide_eq_true_eq] at hfit
  obtain ⟨ht, hi⟩ := hfit
  go_wp2_with fail
  refine (fits_calls w a0 n0 c0 x0 m2 h0'.out f0'.out n0' h2).mono ?_
  rintro e w1 ⟨rfl, rfl⟩
  by_cases hno : fitsB x0 m2 = false
  · rw [hno]
    clear hno
    go_wp2
    go_ret
    exact ⟨rfl, Below.refl _ _⟩
  have hfit : fitsB x0 m2 = true := by simpa using hno
  clear hno
  rw [hfit]
  simp only [fitsB, Bool.and_eq_true, decide_eq_true_eq] at hfit
  obtain ⟨_, hj⟩ := hfit
  have hi' := Lib.hid hi
  have ht' := Lib.hid ht
  clear hi ht
  obtain ⟨nx, pv, hI0, hR0⟩ := rep_mk x0
  have hI := Lib.hid hI0
  have hR := Lib.hid hR0
  clear hI0 hR0
  have hj' := Lib.hid hj
  clear hj
  go_wp2_with fail
  refine (iLink_in w a0 n0 c0 x0 m1 m2 h0'.out f0'.out n0' ht'.out h1 h2 hi'.out hj'.out).mono ?_
  rintro e w1 ⟨a2, n2, c2, a3, n3, c3, rfl, hr2, hr3, hb1⟩
  have hb1' := Lib.hid hb1
  have hr2' := Lib.hid hr2
  have hr3' := Lib.hid hr3
  clear hb1 hr2 hr3
  go_wp2_with fail
  refine (smade_calls w1 a0 n0 c0 x0 (h0'.out.below hb1'.out (Nat.le_refl _)) f0'.out n0' ht'.out).mono ?_
  rintro e w2 ⟨a4, n4, c4, rfl, hr4, hb2⟩
  have hb2' := Lib.hid hb2
  have hr4' := Lib.hid hr4
  have hn4 : n4 ≤ 70000 := by have := hr4.1; rw [mk_length] at this; have := tot_len x0; have := ht'.out; omega
  clear hb2 hr4
  go_wp2_with fail
  refine (slink_calls w2 a4 n4 c4 (mk x0) (tot x0) nx pv m1 m2 hr4'.out hR.out hI.out ht'.out hn4 hi'.out hj'.out).mono ?_
  rintro e w3 ⟨a5, n5, c5, rfl, hr5, hb3⟩
  have B3 := Lib.hid (hb1'.out.trans ((hb2'.out.trans (hb3.mono hb2'.out.size)).mono hb1'.out.size))
  have r2 := Lib.hid ((hr2'.out.below hb2'.out (Nat.le_refl _)).below hb3 (Nat.le_refl _))
  have r3 := Lib.hid ((hr3'.out.below hb2'.out (Nat.le_refl _)).below hb3 (Nat.le_refl _))
  have hRL := Lib.hid (hR.out.link hI.out hi'.out hj'.out)
  have hlen : Hid ((Rm.link (mk x0) m1 m2).length ≤ 100000) := by have := link_length (mk x0) m1 m2; rw [mk_length] at this; have := tot_len x0; have := ht'.out; show _ ≤ _; omega
  have hmv := Lib.hid (mv_mk_lt x0 hi'.out 1)
  generalize Rm.link (mk x0) m1 m2 = t2 at hr5 hRL hlen r2 r3
  have fr1 := Lib.hid (hr5.fromB hRL.out ht'.out hlen.out hi'.out)
  have fr2 := Lib.hid (hr5.fromB hRL.out ht'.out hlen.out hmv.out)
  clear hr5 hb3 hb2' hb1' hr2' hr3' hr4'
  go_wp2_with fail
  refine (fr1.out _ (Below.refl _ _)).mono ?_
  rintro e w4 ⟨a6, n6, c6, rfl, hr6, hb4⟩
  have sm1 := r2.out.sameB _ hb4 _ _ _ _ hr6
  rw [show decide (nats (from' t2 m1) = nats (from' t2 m1)) = true by simp] at sm1
  have sm1' := Lib.hid sm1
  clear hr6 hb4 sm1
  go_wp2_with fail
  refine sm1'.out.mono ?_
  rintro e w5 ⟨rfl, hb5⟩
  go_wp2_with fail
  refine (fr2.out _ hb5).mono ?_
  rintro e w6 ⟨a7, n7, c7, rfl, hr7, hb6⟩
  have sm2 := Lib.hid (r3.out.sameB _ hb6 _ _ _ _ hr7)
  clear hr7 hb6
  go_wp2_with fail
  refine sm2.out.mono ?_
  rintro e w7 ⟨rfl, hb7⟩
  go_wp2
  go_ret
  exact ⟨by simp, B3.out.trans (hb7.mono B3.out.size)⟩

set_option maxHeartbeats 1000000 in
theorem fnExactUnlinkZero_walk (a0 : Option Addr) (n0 c0 : Nat) (x0 : List Int) (m1 : Nat) (w : World) (h0 : Rd .u16 w a0 n0 c0 x0) (f0 : ∀ x ∈ x0, (Lit.int .u16 x).wf = true) (s0 : c0 * 2 ≤ 140737488351232) (h1 : m1 ≤ 65535) :
    Calls Try.prog 9 #[.slice a0 n0 c0, .int .u16 (m1 : Int)] w fun e w' => e = .returned (.bool true) ∧ Below w.heap.size w w' := by
  have hnot : ∀ (x : Bool) (w : World), (Op.unary .not (.bool x)).run Try.prog w = .ok (.bool (!x)) w := fun _ _ => rfl
  have n0' : n0 ≤ 140737488351232 := by have := h0.le; omega
  have h0' := Lib.hid h0
  have f0' := Lib.hid f0
  clear h0 f0 s0
  go_enter Try.func9, Try.ntmps9
  go_wp2_with fail
  refine (fits_calls w a0 n0 c0 x0 m1 h0'.out f0'.out n0' h1).mono ?_
  rintro e w1 ⟨rfl, rfl⟩
  by_cases hno : fitsB x0 m1 = false
  · rw [hno]
    clear hno
    go_wp2
    go_ret
    exact ⟨rfl, Below.refl _ _⟩
  have hfit : fitsB x0 m1 = true := by simpa using hno
  clear hno
  rw [hfit]
  simp only [fitsB, Bool.and_eq_true, decide_eq_true_eq] at hfit
  obtain ⟨ht, hi⟩ := hfit
  have hi' := Lib.hid hi
  have ht' := Lib.hid ht
  clear hi ht
  obtain ⟨nx, pv, hI0, hR0⟩ := rep_mk x0
  have hI := Lib.hid hI0
  have hR := Lib.hid hR0
  clear hI0 hR0
  go_wp2_with fail
  refine (iUnlink_none w a0 n0 c0 x0 m1 0 h0'.out f0'.out n0' ht'.out h1 hi'.out (by omega)).mono ?_
  rintro e w1 ⟨a2, n2, c2, a3, n3, c3, rfl, hr2, hr3, hb1⟩
  have hb1' := Lib.hid hb1
  have hr2' := Lib.hid hr2
  have e3 := hr3.len
  simp only [List.length_nil] at e3
  subst e3
  clear hb1 hr2 hr3
  go_wp2_with fail
  refine (smade_calls w1 a0 n0 c0 x0 (h0'.out.below hb1'.out (Nat.le_refl _)) f0'.out n0' ht'.out).mono ?_
  rintro e w2 ⟨a4, n4, c4, rfl, hr4, hb2⟩
  have B2 := Lib.hid (hb1'.out.trans (hb2.mono hb1'.out.size))
  have r2 := Lib.hid (hr2'.out.below hb2 (Nat.le_refl _))
  have fr1 := Lib.hid (hr4.fromB hR.out ht'.out (by rw [mk_length]; have := tot_len x0; have := ht'.out; omega) hi'.out)
  clear hb2 hr4 hr2' hb1'
  go_wp2_with fail
  refine (fr1.out _ (Below.refl _ _)).mono ?_
  rintro e w4 ⟨a6, n6, c6, rfl, hr6, hb4⟩
  have sm1 := Lib.hid (r2.out.sameB _ hb4 _ _ _ _ hr6)
  clear hr6 hb4
  go_wp2_with fail
  refine sm1.out.mono ?_
  rintro e w5 ⟨rfl, hb5⟩
  go_wp2
  go_ret
  exact ⟨by simp, B2.out.trans (hb5.mono B2.out.size)⟩

set_option maxHeartbeats 1000000 in
theorem fnExactUnlink_walk (a0 : Option Addr) (n0 c0 : Nat) (x0 : List Int) (m1 : Nat) (i2 : Int) (w : World) (h0 : Rd .u16 w a0 n0 c0 x0) (f0 : ∀ x ∈ x0, (Lit.int .u16 x).wf = true) (s0 : c0 * 2 ≤ 140737488351232) (h1 : m1 ≤ 65535) (h2 : -9223372036854775808 ≤ i2 ∧ i2 ≤ 9223372036854775807) :
    Calls Try.prog 7 #[.slice a0 n0 c0, .int .u16 (m1 : Int), .int .i64 i2] w fun e w' => e = .returned (.bool true) ∧ Below w.heap.size w w' := by
  have hnot : ∀ (x : Bool) (w : World), (Op.unary .not (.bool x)).run Try.prog w = .ok (.bool (!x)) w := fun _ _ => rfl
  have n0' : n0 ≤ 140737488351232 := by have := h0.le; omega
  have h0' := Lib.hid h0
  have f0' := Lib.hid f0
  clear h0 f0 s0
  go_enter Try.func7, Try.ntmps7
  go_wp2_with fail
  refine (fits_calls w a0 n0 c0 x0 m1 h0'.out f0'.out n0' h1).mono ?_
  rintro e w1 ⟨rfl, rfl⟩
  by_cases hno : fitsB x0 m1 = false
  · rw [hno]
    clear hno
    go_wp2
    go_ret
    exact ⟨rfl, Below.refl _ _⟩
  have hfit : fitsB x0 m1 = true := by simpa using hno
  clear hno
  rw [hfit]
  simp only [fitsB, Bool.and_eq_true, decide_eq_true_eq] at hfit
  obtain ⟨ht, hi⟩ := hfit
  by_cases hneg : i2 < 0
  · have tn : decide (i2 < 0) = true := by simpa using hneg
    go_wp2
    go_ret
    exact ⟨rfl, Below.refl _ _⟩
  have tn : decide (i2 < 0) = false := by simpa using hneg
  by_cases hbig : 1000000 < i2
  · have tb : decide (1000000 < i2) = true := by simpa using hbig
    go_wp2
    go_ret
    exact ⟨rfl, Below.refl _ _⟩
  obtain ⟨z, rfl⟩ := Int.eq_ofNat_of_zero_le (show 0 ≤ i2 by omega)
  have hz : z ≤ 1000000 := by omega
  clear hneg h2 tn
  have hi' := Lib.hid hi
  have ht' := Lib.hid ht
  clear hi ht
  obtain ⟨nx, pv, hI0, hR0⟩ := rep_mk x0
  have hI := Lib.hid hI0
  have hR := Lib.hid hR0
  clear hI0 hR0
  by_cases hz0 : z = 0
  · subst hz0
    go_wp2_with fail
    refine (iUnlink_none w a0 n0 c0 x0 m1 0 h0'.out f0'.out n0' ht'.out h1 hi'.out (by omega)).mono ?_
    rintro e w1 ⟨a2, n2, c2, a3, n3, c3, rfl, hr2, hr3, hb1⟩
    have hb1' := Lib.hid hb1
    have hr2' := Lib.hid hr2
    clear hb1 hr2 hr3
    go_wp2_with fail
    refine (smade_calls w1 a0 n0 c0 x0 (h0'.out.below hb1'.out (Nat.le_refl _)) f0'.out n0' ht'.out).mono ?_
    rintro e w2 ⟨a4, n4, c4, rfl, hr4, hb2⟩
    have hb2' := Lib.hid hb2
    have hr4' := Lib.hid hr4
    have hn4 : n4 ≤ 70000 := by have := hr4.1; rw [mk_length] at this; have := tot_len x0; have := ht'.out; omega
    clear hb2 hr4
    have hun := sunlink_none w2 a4 n4 c4 (mk x0) (tot x0) nx pv m1 0 hr4'.out hR.out hI.out ht'.out hn4 hi'.out (by omega) (Nat.zero_mod _)
    go_wp2_with fail
    refine hun.mono ?_
    clear hun
    rintro e w3 ⟨a5, n5, c5, rfl, hr5, hb3⟩
    have B3 := Lib.hid (hb1'.out.trans ((hb2'.out.trans (hb3.mono hb2'.out.size)).mono hb1'.out.size))
    have r2 := Lib.hid ((hr2'.out.below hb2'.out (Nat.le_refl _)).below hb3 (Nat.le_refl _))
    have fr1 := Lib.hid (hr5.fromB hR.out ht'.out (by rw [mk_length]; have := tot_len x0; have := ht'.out; omega) hi'.out)
    clear hr5 hb3 hb2' hb1' hr2' hr4'
    go_wp2_with fail
    refine (fr1.out _ (Below.refl _ _)).mono ?_
    rintro e w4 ⟨a6, n6, c6, rfl, hr6, hb4⟩
    have sm1 := Lib.hid (r2.out.sameB _ hb4 _ _ _ _ hr6)
    clear hr6 hb4
    go_wp2_with fail
    refine sm1.out.mono ?_
    rintro e w5 ⟨rfl, hb5⟩
    go_wp2
    go_ret
    exact ⟨by simp, B3.out.trans (hb5.mono B3.out.size)⟩
  have hzp : 0 < z := by omega
  clear hz0
  go_wp2_with fail
  refine (iUnlink_in w a0 n0 c0 x0 m1 z h0'.out f0'.out n0' ht'.out h1 hi'.out hzp hz).mono ?_
  rintro e w1 ⟨a2, n2, c2, a3, n3, c3, rfl, hr2, hr3, hb1⟩
  have hb1' := Lib.hid hb1
  have hr2' := Lib.hid hr2
  have hr3' := Lib.hid hr3
  clear hb1 hr2 hr3
  go_wp2_with fail
  refine (smade_calls w1 a0 n0 c0 x0 (h0'.out.below hb1'.out (Nat.le_refl _)) f0'.out n0' ht'.out).mono ?_
  rintro e w2 ⟨a4, n4, c4, rfl, hr4, hb2⟩
  have hb2' := Lib.hid hb2
  have hr4' := Lib.hid hr4
  have hn4 : n4 ≤ 70000 := by have := hr4.1; rw [mk_length] at this; have := tot_len x0; have := ht'.out; omega
  clear hb2 hr4
  by_cases hk : z % (from' (mk x0) m1).length = 0
  · have hun := sunlink_none w2 a4 n4 c4 (mk x0) (tot x0) nx pv m1 z hr4'.out hR.out hI.out ht'.out hn4 hi'.out hz hk
    have hue : Hid (unlink (mk x0) m1 z = mk x0) := by show _ = _; unfold unlink; rw [if_pos hk]
    clear hk
    go_wp2_with fail
    refine hun.mono ?_
    clear hun
    rintro e w3 ⟨a5, n5, c5, rfl, hr5, hb3⟩
    have B3 := Lib.hid (hb1'.out.trans ((hb2'.out.trans (hb3.mono hb2'.out.size)).mono hb1'.out.size))
    have r2 := Lib.hid ((hr2'.out.below hb2'.out (Nat.le_refl _)).below hb3 (Nat.le_refl _))
    have fr1 := Lib.hid (hr5.fromB hR.out ht'.out (by rw [mk_length]; have := tot_len x0; have := ht'.out; omega) hi'.out)
    rw [hue.out] at r2
    clear hr5 hb3 hb2' hb1' hr2' hr3' hr4'
    go_wp2_with fail
    refine (fr1.out _ (Below.refl _ _)).mono ?_
    rintro e w4 ⟨a6, n6, c6, rfl, hr6, hb4⟩
    have sm1 := Lib.hid (r2.out.sameB _ hb4 _ _ _ _ hr6)
    clear hr6 hb4
    go_wp2_with fail
    refine sm1.out.mono ?_
    rintro e w5 ⟨rfl, hb5⟩
    go_wp2
    go_ret
    exact ⟨by simp, B3.out.trans (hb5.mono B3.out.size)⟩
  have hun := sunlink_calls w2 a4 n4 c4 (mk x0) (tot x0) nx pv m1 z hr4'.out hR.out hI.out ht'.out hn4 hi'.out hz hk
  have hue : unlink (mk x0) m1 z = Rm.link (mk x0) m1 (mv (mk x0) m1 ((z : Int) + 1)) := by unfold unlink; rw [if_neg hk]
  rw [hue] at hr2' hr3'
  clear hk hue
  have hjm := Lib.hid (mv_mk_lt x0 hi'.out ((z : Int) + 1))
  have hmv := Lib.hid (mv_mk_lt x0 hi'.out 1)
  have hRL := Lib.hid (hR.out.link hI.out hi'.out hjm.out)
  have hlen : Hid ((Rm.link (mk x0) m1 (mv (mk x0) m1 ((z : Int) + 1))).length ≤ 100000) := by have := link_length (mk x0) m1 (mv (mk x0) m1 ((z : Int) + 1)); rw [mk_length] at this; have := tot_len x0; have := ht'.out; show _ ≤ _; omega
  generalize Rm.link (mk x0) m1 (mv (mk x0) m1 ((z : Int) + 1)) = t2 at hun hRL hlen hr2' hr3'
  go_wp2_with fail
  refine hun.mono ?_
  clear hun
  rintro e w3 ⟨a5, n5, c5, rfl, hr5, hb3⟩
  have B3 := Lib.hid (hb1'.out.trans ((hb2'.out.trans (hb3.mono hb2'.out.size)).mono hb1'.out.size))
  have r2 := Lib.hid ((hr2'.out.below hb2'.out (Nat.le_refl _)).below hb3 (Nat.le_refl _))
  have r3 := Lib.hid ((hr3'.out.below hb2'.out (Nat.le_refl _)).below hb3 (Nat.le_refl _))
  have fr1 := Lib.hid (hr5.fromB hRL.out ht'.out hlen.out hi'.out)
  have fr2 := Lib.hid (hr5.fromB hRL.out ht'.out hlen.out hmv.out)
  clear hr5 hb3 hb2' hb1' hr2' hr3' hr4'
  go_wp2_with fail
  refine (fr1.out _ (Below.refl _ _)).mono ?_
  rintro e w4 ⟨a6, n6, c6, rfl, hr6, hb4⟩
  have sm1 := r2.out.sameB _ hb4 _ _ _ _ hr6
  rw [show decide (nats (from' t2 m1) = nats (from' t2 m1)) = true by simp] at sm1
  have sm1' := Lib.hid sm1
  clear hr6 hb4 sm1
  go_wp2_with fail
  refine sm1'.out.mono ?_
  rintro e w5 ⟨rfl, hb5⟩
  go_wp2_with fail
  refine (fr2.out _ hb5).mono ?_
  rintro e w6 ⟨a7, n7, c7, rfl, hr7, hb6⟩
  have sm2 := Lib.hid (r3.out.sameB _ hb6 _ _ _ _ hr7)
  clear hr7 hb6
  go_wp2_with fail
  refine sm2.out.mono ?_
  rintro e w7 ⟨rfl, hb7⟩
  go_wp2
  go_ret
  exact ⟨by simp, B3.out.trans (hb7.mono B3.out.size)⟩

set_option maxHeartbeats 1000000 in
theorem fnExactUnlinkRing_walk (a0 : Option Addr) (n0 c0 : Nat) (x0 : List Int) (m1 : Nat) (i2 : Int) (w : World) (h0 : Rd .u16 w a0 n0 c0 x0) (f0 : ∀ x ∈ x0, (Lit.int .u16 x).wf = true) (s0 : c0 * 2 ≤ 140737488351232) (h1 : m1 ≤ 65535) (h2 : -9223372036854775808 ≤ i2 ∧ i2 ≤ 9223372036854775807) :
    Calls Try.prog 8 #[.slice a0 n0 c0, .int .u16 (m1 : Int), .int .i64 i2] w fun e w' => e = .returned (.bool true) ∧ Below w.heap.size w w' := by
  have hnot : ∀ (x : Bool) (w : World), (Op.unary .not (.bool x)).run Try.prog w = .ok (.bool (!x)) w := fun _ _ => rfl
  have n0' : n0 ≤ 140737488351232 := by have := h0.le; omega
  have h0' := Lib.hid h0
  have f0' := Lib.hid f0
  clear h0 f0 s0
  go_enter Try.func8, Try.ntmps8
  go_wp2_with fail
  refine (fits_calls w a0 n0 c0 x0 m1 h0'.out f0'.out n0' h1).mono ?_
  rintro e w1 ⟨rfl, rfl⟩
  by_cases hno : fitsB x0 m1 = false
  · rw [hno]
    clear hno
    go_wp2
    go_ret
    exact ⟨rfl, Below.refl _ _⟩
  have hfit : fitsB x0 m1 = true := by simpa using hno
  clear hno
  rw [hfit]
  simp only [fitsB, Bool.and_eq_true, decide_eq_true_eq] at hfit
  obtain ⟨ht, hi⟩ := hfit
  by_cases hneg : i2 < 0
  · have tn : decide (i2 < 0) = true := by simpa using hneg
    go_wp2
    go_ret
    exact ⟨rfl, Below.refl _ _⟩
  have tn : decide (i2 < 0) = false := by simpa using hneg
  by_cases hbig : 1000000 < i2
  · have tb : decide (1000000 < i2) = true := by simpa using hbig
    go_wp2
    go_ret
    exact ⟨rfl, Below.refl _ _⟩
  obtain ⟨z, rfl⟩ := Int.eq_ofNat_of_zero_le (show 0 ≤ i2 by omega)
  have hz : z ≤ 1000000 := by omega
  clear hneg h2 tn
  have hi' := Lib.hid hi
  have ht' := Lib.hid ht
  clear hi ht
  obtain ⟨nx, pv, hI0, hR0⟩ := rep_mk x0
  have hI := Lib.hid hI0
  have hR := Lib.hid hR0
  clear hI0 hR0
  by_cases hz0 : z = 0
  · subst hz0
    go_wp2_with fail
    refine (iUnlink_none w a0 n0 c0 x0 m1 0 h0'.out f0'.out n0' ht'.out h1 hi'.out (by omega)).mono ?_
    rintro e w1 ⟨a2, n2, c2, a3, n3, c3, rfl, hr2, hr3, hb1⟩
    have hb1' := Lib.hid hb1
    have hr2' := Lib.hid hr2
    clear hb1 hr2 hr3
    go_wp2_with fail
    refine (smade_calls w1 a0 n0 c0 x0 (h0'.out.below hb1'.out (Nat.le_refl _)) f0'.out n0' ht'.out).mono ?_
    rintro e w2 ⟨a4, n4, c4, rfl, hr4, hb2⟩
    have hb2' := Lib.hid hb2
    have hr4' := Lib.hid hr4
    have hn4 : n4 ≤ 70000 := by have := hr4.1; rw [mk_length] at this; have := tot_len x0; have := ht'.out; omega
    clear hb2 hr4
    have hun := sunlink_none w2 a4 n4 c4 (mk x0) (tot x0) nx pv m1 0 hr4'.out hR.out hI.out ht'.out hn4 hi'.out (by omega) (Nat.zero_mod _)
    go_wp2_with fail
    refine hun.mono ?_
    clear hun
    rintro e w3 ⟨a5, n5, c5, rfl, hr5, hb3⟩
    have B3 := Lib.hid (hb1'.out.trans ((hb2'.out.trans (hb3.mono hb2'.out.size)).mono hb1'.out.size))
    have r2 := Lib.hid ((hr2'.out.below hb2'.out (Nat.le_refl _)).below hb3 (Nat.le_refl _))
    have fr1 := Lib.hid (hr5.fromB hR.out ht'.out (by rw [mk_length]; have := tot_len x0; have := ht'.out; omega) hi'.out)
    clear hr5 hb3 hb2' hb1' hr2' hr4'
    go_wp2_with fail
    refine (fr1.out _ (Below.refl _ _)).mono ?_
    rintro e w4 ⟨a6, n6, c6, rfl, hr6, hb4⟩
    have sm1 := Lib.hid (r2.out.sameB _ hb4 _ _ _ _ hr6)
    clear hr6 hb4
    go_wp2_with fail
    refine sm1.out.mono ?_
    rintro e w5 ⟨rfl, hb5⟩
    go_wp2
    go_ret
    exact ⟨by simp, B3.out.trans (hb5.mono B3.out.size)⟩
  have hzp : 0 < z := by omega
  clear hz0
  go_wp2_with fail
  refine (iUnlink_in w a0 n0 c0 x0 m1 z h0'.out f0'.out n0' ht'.out h1 hi'.out hzp hz).mono ?_
  rintro e w1 ⟨a2, n2, c2, a3, n3, c3, rfl, hr2, hr3, hb1⟩
  have hb1' := Lib.hid hb1
  have hr2' := Lib.hid hr2
  have hr3' := Lib.hid hr3
  clear hb1 hr2 hr3
  go_wp2_with fail
  refine (smade_calls w1 a0 n0 c0 x0 (h0'.out.below hb1'.out (Nat.le_refl _)) f0'.out n0' ht'.out).mono ?_
  rintro e w2 ⟨a4, n4, c4, rfl, hr4, hb2⟩
  have hb2' := Lib.hid hb2
  have hr4' := Lib.hid hr4
  have hn4 : n4 ≤ 70000 := by have := hr4.1; rw [mk_length] at this; have := tot_len x0; have := ht'.out; omega
  clear hb2 hr4
  by_cases hk : z % (from' (mk x0) m1).length = 0
  · have hun := sunlink_none w2 a4 n4 c4 (mk x0) (tot x0) nx pv m1 z hr4'.out hR.out hI.out ht'.out hn4 hi'.out hz hk
    have hue : Hid (unlink (mk x0) m1 z = mk x0) := by show _ = _; unfold unlink; rw [if_pos hk]
    clear hk
    go_wp2_with fail
    refine hun.mono ?_
    clear hun
    rintro e w3 ⟨a5, n5, c5, rfl, hr5, hb3⟩
    have B3 := Lib.hid (hb1'.out.trans ((hb2'.out.trans (hb3.mono hb2'.out.size)).mono hb1'.out.size))
    have r2 := Lib.hid ((hr2'.out.below hb2'.out (Nat.le_refl _)).below hb3 (Nat.le_refl _))
    have fr1 := Lib.hid (hr5.fromB hR.out ht'.out (by rw [mk_length]; have := tot_len x0; have := ht'.out; omega) hi'.out)
    rw [hue.out] at r2
    clear hr5 hb3 hb2' hb1' hr2' hr3' hr4'
    go_wp2_with fail
    refine (fr1.out _ (Below.refl _ _)).mono ?_
    rintro e w4 ⟨a6, n6, c6, rfl, hr6, hb4⟩
    have sm1 := Lib.hid (r2.out.sameB _ hb4 _ _ _ _ hr6)
    clear hr6 hb4
    go_wp2_with fail
    refine sm1.out.mono ?_
    rintro e w5 ⟨rfl, hb5⟩
    go_wp2
    go_ret
    exact ⟨by simp, B3.out.trans (hb5.mono B3.out.size)⟩
  have hun := sunlink_calls w2 a4 n4 c4 (mk x0) (tot x0) nx pv m1 z hr4'.out hR.out hI.out ht'.out hn4 hi'.out hz hk
  have hue : unlink (mk x0) m1 z = Rm.link (mk x0) m1 (mv (mk x0) m1 ((z : Int) + 1)) := by unfold unlink; rw [if_neg hk]
  rw [hue] at hr2' hr3'
  clear hk hue
  have hjm := Lib.hid (mv_mk_lt x0 hi'.out ((z : Int) + 1))
  have hmv := Lib.hid (mv_mk_lt x0 hi'.out 1)
  have hRL := Lib.hid (hR.out.link hI.out hi'.out hjm.out)
  have hlen : Hid ((Rm.link (mk x0) m1 (mv (mk x0) m1 ((z : Int) + 1))).length ≤ 100000) := by have := link_length (mk x0) m1 (mv (mk x0) m1 ((z : Int) + 1)); rw [mk_length] at this; have := tot_len x0; have := ht'.out; show _ ≤ _; omega
  generalize Rm.link (mk x0) m1 (mv (mk x0) m1 ((z : Int) + 1)) = t2 at hun hRL hlen hr2' hr3'
  go_wp2_with fail
  refine hun.mono ?_
  clear hun
  rintro e w3 ⟨a5, n5, c5, rfl, hr5, hb3⟩
  have B3 := Lib.hid (hb1'.out.trans ((hb2'.out.trans (hb3.mono hb2'.out.size)).mono hb1'.out.size))
  have r2 := Lib.hid ((hr2'.out.below hb2'.out (Nat.le_refl _)).below hb3 (Nat.le_refl _))
  have r3 := Lib.hid ((hr3'.out.below hb2'.out (Nat.le_refl _)).below hb3 (Nat.le_refl _))
  have fr1 := Lib.hid (hr5.fromB hRL.out ht'.out hlen.out hi'.out)
  have fr2 := Lib.hid (hr5.fromB hRL.out ht'.out hlen.out hmv.out)
  clear hr5 hb3 hb2' hb1' hr2' hr3' hr4'
  have hM1 := hmv.out
  generalize mv (mk x0) m1 1 = q at *
  have hpos : 0 < n3 := by rw [← r3.out.len, nats_length]; exact (hRL.out.from_ring hM1).pos
  have hle := r3.out.le
  obtain ⟨b, of, rfl, hbl, hcell⟩ := r3.out.at hpos
  have hc := hcell 0 hpos
  rw [Rep.head hRL.out hM1] at hc
  clear hcell
  have hq : q ≤ 65535 := by have := ht'.out; omega
  have hgo : Hid (∀ u, Below w3.heap.size w3 u → u.cell? ⟨b, of, none⟩ = some (.int .i64 (q : Int)) ∧ Below w3.heap.size w3 u) := fun u hu => ⟨by rw [hu.cell (p := ⟨b, of, none⟩) hbl]; exact hc, hu⟩
  have k1 : Hid (∀ u, u.cell? ⟨b, of, none⟩ = some (.int .i64 (q : Int)) ∧ Below w3.heap.size w3 u → Calls Try.prog 26 #[.slice a5 n5 c5, .int .i64 (m1 : Int)] u fun e u' => ∃ a n c, e = .returned (.slice a n c) ∧ Rd .i64 u' a n c (nats (from' t2 m1)) ∧ u'.cell? ⟨b, of, none⟩ = some (.int .i64 (q : Int)) ∧ Below w3.heap.size w3 u') := by
    intro u hu
    refine (fr1.out u hu.2).mono ?_
    rintro e u' ⟨a, n, c, rfl, hr, hb⟩
    exact ⟨a, n, c, rfl, hr, hgo.out u' hb⟩
  have k2 : Hid (∀ u, u.cell? ⟨b, of, none⟩ = some (.int .i64 (q : Int)) ∧ Below w3.heap.size w3 u → Calls Try.prog 26 #[.slice a5 n5 c5, .int .i64 (q : Int)] u fun e u' => ∃ a n c, e = .returned (.slice a n c) ∧ Rd .i64 u' a n c (nats (from' t2 q)) ∧ u'.cell? ⟨b, of, none⟩ = some (.int .i64 (q : Int)) ∧ Below w3.heap.size w3 u') := by
    intro u hu
    refine (fr2.out u hu.2).mono ?_
    rintro e u' ⟨a, n, c, rfl, hr, hb⟩
    exact ⟨a, n, c, rfl, hr, hgo.out u' hb⟩
  have k3 : Hid (∀ u a n c, u.cell? ⟨b, of, none⟩ = some (.int .i64 (q : Int)) ∧ Below w3.heap.size w3 u → Rd .i64 u a n c (nats (from' t2 m1)) → Calls Try.prog 18 #[.slice a2 n2 c2, .slice a n c] u fun e u' => e = .returned (.bool true) ∧ u'.cell? ⟨b, of, none⟩ = some (.int .i64 (q : Int)) ∧ Below w3.heap.size w3 u') := by
    intro u a n c hu hr
    refine (r2.out.sameB u hu.2 _ _ _ _ hr).mono ?_
    rintro e u' ⟨rfl, hb⟩
    exact ⟨by simp, hgo.out u' hb⟩
  have k4 : Hid (∀ u a n c, u.cell? ⟨b, of, none⟩ = some (.int .i64 (q : Int)) ∧ Below w3.heap.size w3 u → Rd .i64 u a n c (nats (from' t2 q)) → Calls Try.prog 18 #[.slice (some ⟨b, of, none⟩) n3 c3, .slice a n c] u fun e u' => e = .returned (.bool true) ∧ u'.cell? ⟨b, of, none⟩ = some (.int .i64 (q : Int)) ∧ Below w3.heap.size w3 u') := by
    intro u a n c hu hr
    refine (r3.out.sameB u hu.2 _ _ _ _ hr).mono ?_
    rintro e u' ⟨rfl, hb⟩
    exact ⟨by simp, hgo.out u' hb⟩
  have k5 : Hid (∀ u a n c, Rd .i64 u a n c (nats (from' t2 q)) → Calls Try.prog 28 #[.slice a n c, .int .i64 (q : Int)] u fun e u' => e = .returned (.int .i64 0) ∧ u = u') := by
    intro u a n c hr
    have e0 : placeI (nats (from' t2 q)) (q : Int) = 0 := by
      have r := hRL.out.from_ring hM1
      rw [placeI_in r.mem]
      have := idxOf_of (xs := nats (from' t2 q)) (x := (q : Int)) (k := 0) (by rw [nats_length]; exact r.pos) (by simp) (Rep.head hRL.out hM1)
      rw [idxOf_nats] at this
      rw [this]; rfl
    have := place_calls a n c _ (q : Int) u hr
    rwa [e0] at this
  have hS0 : w3.drew.cell? ⟨b, of, none⟩ = some (.int .i64 (q : Int)) ∧ Below w3.heap.size w3 w3.drew := hgo.out w3.drew (below_drewN (Below.refl _ _) 1)
  have hwr : IntKind.i64.wrap (m1 : Int) = (m1 : Int) := IntWalk.i64_in _ (by omega)
  have t0 : decide (0 < n3) = true := by simpa using hpos
  have t1 : decide ((0 : Int) < (n3 : Int)) = true := by simpa using hpos
  clear fr1 fr2 hc
  go_wp2
  go_region_held3 (fun u => u.cell? ⟨b, of, none⟩ = some (.int .i64 (q : Int)) ∧ Below w3.heap.size w3 u) (first | assumption | exact ⟨by assumption, by assumption⟩)
    (first
      | (go_at_call 26; ((with_reducible refine (k1.out _ (by assumption)).mono ?_); rintro e w5 ⟨a6, n6, c6, rfl, hr6, hS5⟩))
      | (go_at_call 26; ((with_reducible refine (k2.out _ (by assumption)).mono ?_); rintro e w6 ⟨a7, n7, c7, rfl, hr7, hS6⟩))
      | (go_at_call 18; ((with_reducible refine (k3.out _ _ _ _ (by assumption) (by assumption)).mono ?_); rintro e w7 ⟨rfl, hS7⟩))
      | (go_at_call 18; ((with_reducible refine (k4.out _ _ _ _ (by assumption) (by assumption)).mono ?_); rintro e w8 ⟨rfl, hS8⟩))
      | (go_at_call 28; ((with_reducible refine (k5.out _ _ _ _ (by assumption)).mono ?_); rintro e w9 ⟨rfl, rfl⟩)))
  go_wp2
  go_ret
  exact ⟨rfl, B3.out.trans (hS6.2.mono B3.out.size)⟩

end Go.Proofs.Ytbkclmkncenaeaa

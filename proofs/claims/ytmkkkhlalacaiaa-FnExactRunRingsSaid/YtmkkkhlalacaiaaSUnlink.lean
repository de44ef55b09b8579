/- (spec.Rings).Unlink. -/
import Derived.Test.YtmkkkhlalacaiaaUnl
import Derived.Deep.RegionHeld3
import Derived.IntWalk
namespace Go.Proofs.Ytmkkkhlalacaiaa
open Go.RowKit
open Go.Proofs.Ytmkkkhlalacaiaa.Rm
set_option linter.unusedVariables false

/-- out = append(out, y), as a step of a region that draws its order. -/
theorem step_push {P : Program} {ops : Array Oper} {o : Oper} {a : Act} {w : World} {K : Act → World → Prop} {Q : Exit → Act → World → Prop} {E' : Prop} (hgd : o.guard = none) (s x : Operand) (T E : TypeId) (ho : o.op = .call { callee := .builtin .append, args := #[s, x], argTypes := #[T, T] })
    {z : Value} {bytes : Nat} (hu : P.underlying T = some (.slice E)) (hin : (P.info? E).map (fun i => (i.zero, i.size, i.bytes)) = some (some z, 1, bytes)) (hz : z.cells.size = 1)
    (base : Nat) (v : Value) (xs : List Value) (y : Value) (hy : y.oneCell' = true) (hs : a.eval s = v) (hx : a.eval x = .slice (some ⟨w.heap.size, 0, none⟩) 1 1)
    (hown : Own E base w v xs) (hlen : xs.length + 1 ≤ maxLen) (hbytes : (xs.length + 1) * bytes ≤ 140737488355328) (hbase : base ≤ w.heap.size)
    (h : ∀ v' w', Own E base w' v' (xs ++ [y]) → Pushed w w' v v' → K (a.put o.dst v') w') :
    if Region.wanted o (yielded ops a.tmps) = true then Oper.wp P o a (w.alloc (.cells #[y] E)) K Q else E' := by
  refine step_join hgd s x T E ho hu hin hz base v xs [y] (by intro u hu; simp at hu; subst hu; exact hy) hs _ 1 1 hx rfl (fun e => by cases e) ?_ (hown.alloc _) hlen hbytes (by simp; omega) ?_
  · intro ad' e j u hj
    cases e
    match j, hj with
    | 0, hj => simp at hj; subst hj; rw [Addr.add_lit]; exact blk_cell (l := [y]) (heap_alloc_new w _) rfl
  · intro v' w' h1 h2
    refine h v' w' h1 ⟨⟨h2.grown.os, h2.grown.tape, h2.grown.output, Nat.le_trans (by simp) h2.grown.size, fun k hk hne => ?_⟩, ?_⟩
    · rw [h2.grown.block k (by simp; omega) hne]; exact Below.heap_alloc _ _ _ hk
    · rcases h2.at' with h4 | ⟨g, h4, h5⟩
      · exact .inl h4
      · exact .inr ⟨g, h4, by simp at h5; omega⟩

/-- Rings that are made, and a list that is to come to them. -/
structure UJ (B w6 : World) (v : Value) (vs : List Value) (t : List (List Nat)) (a6 : Option Addr) (n6 c6 : Nat) (l6 : List Nat) : Prop where
  own : Own 33 B.heap.size w6 v vs
  inner : ∀ (i : Nat) l, t[i]? = some l → ∃ a n c, vs[i]? = some (Value.slice a n c) ∧ Rd .i64 w6 a n c (nats l) ∧ ∀ ad, a = some ad → v.ownBlock ≠ some ad.block ∧ ad.block < w6.heap.size
  rd : Rd .i64 w6 a6 n6 c6 (nats l6)
  blk : ∀ ad, a6 = some ad → v.ownBlock ≠ some ad.block ∧ ad.block < w6.heap.size
  below : Below B.heap.size B w6
theorem unl_join {B x w6 : World} {v : Value} {vs : List Value} {t : List (List Nat)} {g n6 c6 : Nat} {a6 : Option Addr} {l6 : List Nat} (hBx : Below B.heap.size B x) (ho : Own 33 B.heap.size x v vs) (hq : v.ownBlock ≠ some g)
    (hin : ∀ (i : Nat) l, t[i]? = some l → ∃ a n c, vs[i]? = some (Value.slice a n c) ∧ Rd .i64 x a n c (nats l) ∧ ∀ ad, a = some ad → ad.block < B.heap.size) (hg : B.heap.size ≤ g)
    (o6 : Own 3 B.heap.size w6 (.slice a6 n6 c6) ((nats l6).map (Value.int .i64))) (p6 : Pushed x w6 (.slice (some ⟨g, 0, none⟩) 1 1) (.slice a6 n6 c6)) : UJ B w6 v vs t a6 n6 c6 l6 := by
  have hlit : (Value.slice (some ⟨g, 0, none⟩) 1 1).ownBlock = some g := rfl
  have hb6 := p6.below (B := B.heap.size) hBx.size (fun k hk => by rw [hlit] at hk; cases hk; exact hg)
  obtain ⟨a', n', c', e', r'⟩ := o6.rd
  cases e'
  refine ⟨ho.keep fun k hk => p6.other (ho.lt hk).2 (fun e => by rw [hlit] at e; cases e; exact hq hk), fun i l hl => ?_, r', fun ad ha => ?_, hBx.trans hb6⟩
  · obtain ⟨a, n, c, e, r, q⟩ := hin i l hl
    refine ⟨a, n, c, e, r.keep p6.size (fun ad ha => hb6.block _ (q ad ha)), fun ad ha => ⟨fun hh => ?_, ?_⟩⟩
    · have := (ho.lt hh).1; have := q ad ha; omega
    · have := q ad ha; have := hBx.size; have := p6.size; omega
  · have h6 : (Value.slice a6 n6 c6).ownBlock = some ad.block := by rw [ha]; rfl
    refine ⟨fun hh => ?_, (o6.lt h6).2⟩
    rcases p6.at' with e | ⟨k, e, hk⟩
    · rw [h6, hlit] at e; cases e; exact hq hh
    · rw [h6] at e; cases e
      have := (ho.lt hh).2
      omega

theorem sunlink_none (w : World) (a : Option Addr) (n c : Nat) (t : List (List Nat)) (N : Nat) (nx pv : Nat → Nat) (i z : Nat) (h : Rr w a n c t) (hR : Rep N nx t) (hI : Inv N nx pv) (hN : N ≤ 65536) (hn : n ≤ 70000) (hi : i < N) (hz : z ≤ 1000000) (hk : z % (from' t i).length = 0) :
    Calls Try.prog 27 #[.slice a n c, .int .i64 (i : Int), .int .i64 (z : Int)] w (SLinkPost w t (-1)) := by
  have hR' := Lib.hid hR
  have h' := Lib.hid h
  have hlp := (hR.from_ring hi).pos
  have hll := hR.len_le hi
  clear hR h
  have hk' := Lib.hid hk
  clear hk
  go_enter Try.func27, Try.ntmps27
  go_wp2_with fail
  refine (from_calls w a n c t i h'.out (by omega) (fun l hl => by have := hR'.out.len_mem hl; omega) (by omega)).mono ?_
  rintro e w1 ⟨a1, n1, c1, rfl, r1, hb1⟩
  have hb1' := Lib.hid hb1
  have hlen := r1.len
  have hle := r1.le
  rw [nats_length] at hlen
  have hk2 : (z : Int) % (n1 : Int) = 0 := by have := hk'.out; rw [hlen] at this; omega
  have q1 : 0 < n1 := by omega
  have hlen' := Lib.hid hlen
  clear r1 hb1 hlen hlp hll
  go_wp2
  go_ret2
  exact ⟨a, n, c, rfl, h'.out.below hb1'.out (Nat.le_refl _), hb1'.out⟩

set_option maxHeartbeats 1000000 in
theorem sunlink_calls (w : World) (a : Option Addr) (n c : Nat) (t : List (List Nat)) (N : Nat) (nx pv : Nat → Nat) (i z : Nat) (h : Rr w a n c t) (hR : Rep N nx t) (hI : Inv N nx pv) (hN : N ≤ 65536) (hn : n ≤ 70000) (hi : i < N) (hz : z ≤ 1000000) (hk : z % (from' t i).length ≠ 0) :
    Calls Try.prog 27 #[.slice a n c, .int .i64 (i : Int), .int .i64 (z : Int)] w (SLinkPost w (link t i (mv t i ((z : Int) + 1))) (mv t i 1 : Nat)) := by
  have hR' := Lib.hid hR
  have h' := Lib.hid h
  have hlp := (hR.from_ring hi).pos
  have hll := hR.len_le hi
  have hlk := Lib.hid (hR.unlink_eq hI hi z hk)
  have hkl := Nat.mod_lt z hlp
  have hL2 : 1 < (from' t i).length := by
    by_cases q : (from' t i).length = 1
    · rw [q] at hk; omega
    · omega
  have hget : Hid ((from' t i)[1]? = some (mv t i 1)) := hR.from_get hi hL2
  have htl := Lib.hid h.1
  clear hR h
  obtain ⟨k, hkk⟩ : ∃ k, z % (from' t i).length = k := ⟨_, rfl⟩
  rw [hkk] at hlk hkl hk
  have hk' := Lib.hid hkk
  clear hkk
  go_enter Try.func27, Try.ntmps27
  go_wp2_with fail
  refine (from_calls w a n c t i h'.out (by omega) (fun l hl => by have := hR'.out.len_mem hl; omega) (by omega)).mono ?_
  rintro e w1 ⟨a1, n1, c1, rfl, r1, hb1⟩
  have hb1' := Lib.hid hb1
  have hlen := r1.len
  have hle := r1.le
  rw [nats_length] at hlen
  have hk2 : (z : Int) % (n1 : Int) = (k : Int) := by have := hk'.out; rw [hlen] at this; omega
  have q1 : 0 < n1 := by omega
  have q2 : k < n1 := by omega
  have q3 : 1 < n1 := by omega
  have q4 : n1 ≤ 65536 := by omega
  have q5 : 1 ≤ k := by omega
  have hlen' := Lib.hid hlen
  have r1' := Lib.hid r1
  obtain ⟨b1, of1, rfl, hB1, hcell⟩ := r1.at q1
  have hc1 := hcell 1 q3
  rw [show (nats (from' t i)).getD 1 0 = (mv t i 1 : Nat) by
    have e := List.getElem?_eq_some_iff.1 hget.out
    rw [nats_getD _ _ hL2, e.2]] at hc1
  clear r1 hb1 hlen hlp hll hcell hL2 hkl hget
  have tk : ((k : Int) == 0) = false := by simp; omega
  have hcut := fun u => run_cut_low (P := Try.prog) u 33 3 (some ⟨b1, of1, none⟩) n1 c1 (k + 1) .i64 Try.underlying33 sizeIntR ((k : Int) + 1) (by omega) (by omega)
  have hcut2 := fun u => run_cut_both (P := Try.prog) u 33 3 (some ⟨b1, of1, none⟩) n1 c1 1 (k + 1) .i64 .i64 Try.underlying33 sizeIntR 1 ((k : Int) + 1) rfl (by omega) (by omega) (by omega)
  have hw1 : IntKind.i64.wrap ((k : Int) + 1) = (k : Int) + 1 := IntWalk.i64_in _ (by omega)
  have hth : Hid (∀ u, Below w1.heap.size w1 u → Calls Try.prog 39 #[.slice a n c, .int .i64 (i : Int), .int .i64 (i : Int)] u fun e u' =>
      ∃ av cv vs, e = .returned (.slice av (List.length vs) cv) ∧ Own 33 u.heap.size u' (.slice av vs.length cv) vs ∧ Hid (vs.length = (others t i i).length) ∧ (∀ (q : Nat) l, (others t i i)[q]? = some l → ∃ a n c, vs[q]? = some (Value.slice a n c) ∧ Rd .i64 u' a n c (nats l) ∧ ∀ ad, a = some ad → ad.block < w1.heap.size) ∧ Below u.heap.size u u' ∧ Below w1.heap.size w1 u') := by
    intro u hu
    refine (othersU_calls w1 u a n c t i i (h'.out.below hb1'.out (Nat.le_refl _)) hu (by omega) (fun l hl => by have := hR'.out.len_mem hl; omega) (fun l hl => hR'.out.ne_mem hl) (by omega) (by omega)).mono ?_
    rintro e u' ⟨v, rfl, ⟨vs, o1, o2, o3⟩, hb⟩
    obtain ⟨av, cv, rfl⟩ := own_len o1
    exact ⟨av, cv, vs, rfl, o1, o2, o3, hb, hu.trans (hb.mono hu.size)⟩
  have hrd : Hid (∀ u, Below w1.heap.size w1 u → Rd .i64 u (cutA (some ⟨b1, of1, none⟩) c1 (k + 1)) (n1 - (k + 1)) (c1 - (k + 1)) ((nats (from' t i)).drop (k + 1))) := by
    intro u hu
    have := (r1'.out.below hu (Nat.le_refl _)).cut (lo := k + 1) (hi := n1) (by omega) (Nat.le_refl _)
    rwa [List.take_of_length_le (by rw [nats_length, hlen'.out]; exact Nat.le_refl _)] at this
  have hm5 : (((nats (from' t i)).drop (k + 1)).map (Value.int .i64)).length = n1 - (k + 1) := by rw [List.length_map]; exact (hrd.out w1 (Below.refl _ _)).len
  have hmk : Hid (∀ v6 w6, Own 3 w1.heap.size w6 v6 ([Value.int .i64 (i : Int)] ++ ((nats (from' t i)).drop (k + 1)).map (Value.int .i64)) → ∃ a6 n6 c6, v6 = .slice a6 n6 c6 ∧ Own 3 w1.heap.size w6 (.slice a6 n6 c6) ((nats (i :: (from' t i).drop (k + 1))).map (Value.int .i64))) := by
    intro v6 w6 o6
    have e : (nats (i :: (from' t i).drop (k + 1))).map (Value.int .i64) = [Value.int .i64 (i : Int)] ++ ((nats (from' t i)).drop (k + 1)).map (Value.int .i64) := by simp [nats]
    rw [← e] at o6
    obtain ⟨a6, n6, c6, rfl, _⟩ := o6.rd
    exact ⟨a6, n6, c6, rfl, o6⟩
  have hsd : Hid ((w1.alloc (.cells #[.int .i64 (i : Int)] 3)).drew.heap.size = w1.heap.size + 1) := by show (w1.heap.push _).size = _; simp
  have hvsB : Hid ((others t i i).length ≤ 70000) := by have := others_length t i i; rw [htl.out] at this; show _ ≤ _; omega
  go_wp2
  go_region_held3 (fun u => Below w1.heap.size w1 u) (first | assumption | exact below_drewN (Below.refl _ _) 1 | exact (below_drewN (Below.refl _ _) 1).alloc (Nat.le_refl _) _ | exact hS5.alloc hS5.size _ | exact UJ6.below | exact UJ6.below.alloc UJ6.below.size _)
    (first
      | (go_at_call 39; ((with_reducible refine (hth.out _ (by first | assumption | exact (below_drewN (Below.refl _ _) 1).alloc (Nat.le_refl _) _)).mono ?_); rintro e w5 ⟨av, cv, vs, rfl, o1, o2, o3, hb5, hS5⟩))
      | (have rdX := hrd.out w5 hS5
         refine step_join rfl (.tmp 26) (.tmp 30) 33 3 rfl Try.underlying33 infoIntR rfl w1.heap.size _ [.int .i64 (i : Int)] (((nats (from' t i)).drop (k + 1)).map (Value.int .i64)) (ints_one .i64 _) rfl _ _ _ rfl hm5 rdX.2.2.2.1 rdX.cells ((Own.lit 3 w1.heap.size w1.drew [.int .i64 (i : Int)] (Nat.le_refl _) (by unfold maxLen; simp)).below hb5 (Nat.le_refl _)) (by simp only [List.length_cons, List.length_nil, maxLen]; omega) (by simp only [List.length_cons, List.length_nil]; omega) hS5.size ?_
         intro v6 w6 o6 p6
         obtain ⟨a6, n6, c6, rfl, o6'⟩ := hmk.out v6 w6 o6
         have UJ6 := unl_join (B := w1) (g := w1.heap.size) hS5 (o1.base (by simp)) (fun e => by have := (o1.lt e).1; rw [hsd.out] at this; omega) o3 (Nat.le_refl _) o6' p6)
      | (have rdX := hrd.out (w5.alloc (.cells #[.int .i64 (i : Int)] 3)) (hS5.alloc hS5.size _)
         refine step_join rfl (.tmp 26) (.tmp 30) 33 3 rfl Try.underlying33 infoIntR rfl w1.heap.size _ [.int .i64 (i : Int)] (((nats (from' t i)).drop (k + 1)).map (Value.int .i64)) (ints_one .i64 _) rfl _ _ _ rfl hm5 rdX.2.2.2.1 rdX.cells (Own.lit 3 w1.heap.size w5 [.int .i64 (i : Int)] hS5.size (by unfold maxLen; simp)) (by simp only [List.length_cons, List.length_nil, maxLen]; omega) (by simp only [List.length_cons, List.length_nil]; omega) (hS5.alloc hS5.size _).size ?_
         intro v6 w6 o6 p6
         obtain ⟨a6, n6, c6, rfl, o6'⟩ := hmk.out v6 w6 o6
         have UJ6 := unl_join (B := w1) (g := w5.heap.size) (hS5.alloc hS5.size _) ((o1.base (by simp)).alloc _) (fun e => by have := (o1.lt e).2; omega) (fun q l hl => by obtain ⟨a, n, c, e, r, h⟩ := o3 q l hl; exact ⟨a, n, c, e, r.below ((Below.refl w5.heap.size w5).alloc (Nat.le_refl _) _) (Nat.le_refl _), h⟩) hS5.size o6' p6)
      | (refine step_push rfl (.tmp 24) (.tmp 32) 29 33 rfl Try.underlying29 infoInts rfl w1.heap.size _ _ (.slice a6 n6 c6) rfl rfl rfl UJ6.own (by rw [o2.out]; have := hvsB.out; unfold maxLen; omega) (by rw [o2.out]; have := hvsB.out; omega) UJ6.below.size ?_
         intro v7 w7 o7 p7
         have hfin := Rls.push UJ6.own o2.out UJ6.inner UJ6.rd UJ6.blk o7 p7
         have B7 : Below w1.heap.size w1 w7 := UJ6.below.trans (p7.below UJ6.below.size (fun k hk => (UJ6.own.lt hk).1))))
  all_goals
    have hB1v : v7.ownBlock ≠ some b1 := by
      intro hq
      rcases p7.at' with e7 | ⟨g7, e7, h7⟩
      · rw [e7] at hq
        have := (UJ6.own.lt hq).1
        omega
      · rw [e7] at hq; cases hq
        have := UJ6.below.size
        omega
    have hvl : vs.length ≤ 70000 := by rw [o2.out]; exact hvsB.out
    have hfin' := Lib.hid hfin
    have B7' := Lib.hid B7
    have l7 := own_len o7
    simp only [List.length_append, List.length_cons, List.length_nil, Nat.zero_add] at l7
    obtain ⟨a7, c7, rfl⟩ := l7
    have hc7 : w7.cell? ⟨b1, of1 + 1, none⟩ = some (.int .i64 (mv t i 1 : Nat)) := by rw [B7'.out.cell (p := ⟨b1, of1 + 1, none⟩) hB1]; exact hc1
    clear hfin B7 o7 p7 UJ6 p6 o6' o6 o3 o1 hb5 hS5 o2 hc1 hth hrd hm5 hmk rdX
    obtain ⟨vs2, q1, q2, q3⟩ := hfin'.out
    have e7 := own_len q1
    obtain ⟨_, _, e7⟩ := e7
    have hl2 : Hid (vs2.length = vs.length + 1) := by simp only [Value.slice.injEq] at e7; exact e7.2.1.symm
    have hl3 : vs2.length ≤ 70001 := by rw [hl2.out]; omega
    have r8 : Hid (Rd .i64 w7 (some ⟨b1, of1 + 1, none⟩) k (c1 - 1) (nats (((from' t i).take (k + 1)).drop 1))) := by
      have := ((r1'.out.below B7'.out (Nat.le_refl _)).cut (lo := 1) (hi := k + 1) (by omega) (by omega))
      rw [cutA_lt (by omega)] at this
      rw [nats_drop, nats_take]; exact this
    have hcA : cutA (some ⟨b1, of1, none⟩) c1 1 = some ⟨b1, of1 + 1, none⟩ := cutA_lt (by omega)
    rw [hcA, show k + 1 - 1 = k by omega] at hcut2
    have q2' := Lib.hid q2
    have q3' := Lib.hid q3
    have q1' := Lib.hid q1
    have hs7 := B7'.out.size
    clear hcA q2 q3 q1 e7
    have q3i : (1 : Int) < (n1 : Int) := by omega
    have hS7 : w7.drew.cell? ⟨b1, of1 + 1, none⟩ = some (.int .i64 (mv t i 1 : Nat)) ∧ Below w1.heap.size w1 w7.drew := ⟨hc7, below_drewN B7'.out 1⟩
    have hS8 : (w7.drew.alloc (.cells #[.slice (some ⟨b1, of1 + 1, none⟩) k (c1 - 1)] 33)).cell? ⟨b1, of1 + 1, none⟩ = some (.int .i64 (mv t i 1 : Nat)) ∧ Below w1.heap.size w1 (w7.drew.alloc (.cells #[.slice (some ⟨b1, of1 + 1, none⟩) k (c1 - 1)] 33)) := by
      have hb : Below w1.heap.size w1 (w7.drew.alloc (.cells #[.slice (some ⟨b1, of1 + 1, none⟩) k (c1 - 1)] 33)) := (below_drewN B7'.out 1).alloc hs7 (.cells #[.slice (some ⟨b1, of1 + 1, none⟩) k (c1 - 1)] 33)
      exact ⟨by rw [hb.cell (p := ⟨b1, of1 + 1, none⟩) hB1, ← B7'.out.cell (p := ⟨b1, of1 + 1, none⟩) hB1]; exact hc7, hb⟩
    go_wp2
    go_region_held3 (fun u => u.cell? ⟨b1, of1 + 1, none⟩ = some (.int .i64 (mv t i 1 : Nat)) ∧ Below w1.heap.size w1 u) (first | assumption | exact hS8)
      (first
        | (refine step_push (w := w7.drew) rfl (.tmp 34) (.tmp 39) 29 33 rfl Try.underlying29 infoInts rfl w1.heap.size _ _ (.slice (some ⟨b1, of1 + 1, none⟩) k (c1 - 1)) rfl rfl rfl q1'.out.drew (by unfold maxLen; omega) (by omega) hs7 ?_
           intro v8 w8 o8 p8
           have hfin2 := Lib.hid (Rls.push (w := w7.drew) q1'.out.drew q2'.out q3'.out r8.out (fun ad e => by cases e; exact ⟨hB1v, Nat.lt_of_lt_of_le hB1 hs7⟩) o8 p8)
           have hb8 : Below w1.heap.size w1 w8 := (below_drewN B7'.out 1).trans (p8.below hs7 (fun k hk => (q1'.out.lt hk).1))
           have hS9 : w8.cell? ⟨b1, of1 + 1, none⟩ = some (.int .i64 (mv t i 1 : Nat)) ∧ Below w1.heap.size w1 w8 := ⟨by rw [hb8.cell (p := ⟨b1, of1 + 1, none⟩) hB1, ← B7'.out.cell (p := ⟨b1, of1 + 1, none⟩) hB1]; exact hc7, hb8⟩))
    have hb9 := Lib.hid (hb1'.out.trans (hb8.mono hb1'.out.size))
    clear o8 p8 hb8 hS9
    go_wp2
    go_ret2
    obtain ⟨a9, n9, c9, rfl, r9⟩ := hfin2.out.rr
    exact ⟨a9, n9, c9, rfl, by rw [hlk.out]; exact r9, hb9.out⟩

end Go.Proofs.Ytmkkkhlalacaiaa

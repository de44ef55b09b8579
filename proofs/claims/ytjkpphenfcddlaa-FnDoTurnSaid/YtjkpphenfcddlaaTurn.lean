/- The drawn law FnDoTurn, walked. Written by genturn.py. -/
import Derived.Test.YtjkpphenfcddlaaUse
import Derived.Test.YtjkpphenfcddlaaSame
import Derived.Deep.RegionHeld3
import Derived.IntWalk
namespace Go.Proofs.Ytjkpphenfcddlaa
open Go.RowKit
open Go.Proofs.Ytjkpphenfcddlaa.Rm
set_option linter.unusedVariables false

/-- What the steps of the last statement keep, in whatever order they come: va is the list that is appended to (if it is there yet), vb the block of the one element that is appended last, vd the other list. -/
structure Tst (W : World) (m : Int) (L : List Int) (va : Option (Value × List Int)) (vb : Option Nat) (vd : Option (Option Addr × Nat × Nat)) (u : World) : Prop where
  below : Below W.heap.size W u
  own : ∀ v xs, va = some (v, xs) → Own 3 W.heap.size u v (xs.map (Value.int .i64))
  lit : ∀ g, vb = some g → u.heap[g]? = some (.cells #[.int .i64 m] 3 (0, 0))
  nel : ∀ g v xs, vb = some g → va = some (v, xs) → v.ownBlock ≠ some g
  rd : ∀ a n c, vd = some (a, n, c) → Rd .i64 u a n c L ∧ ∀ ad, a = some ad → ad.block < u.heap.size
  ned : ∀ a n c v xs ad, vd = some (a, n, c) → va = some (v, xs) → a = some ad → v.ownBlock ≠ some ad.block
theorem Tst.drew {W : World} {m : Int} {L : List Int} {va : Option (Value × List Int)} {vb : Option Nat} {vd : Option (Option Addr × Nat × Nat)} {u : World} (h : Tst W m L va vb vd u) : Tst W m L va vb vd u.drew :=
  ⟨below_drewN h.below 1, h.own, h.lit, h.nel, h.rd, h.ned⟩
theorem Tst.start (W : World) (m : Int) (L : List Int) : Tst W m L none none none W :=
  ⟨Below.refl _ _, (fun _ _ e => by cases e), (fun _ e => by cases e), (fun _ _ _ e => by cases e), (fun _ _ _ e => by cases e), (fun _ _ _ _ _ _ e => by cases e)⟩
theorem Tst.allocA {W : World} {m : Int} {L : List Int} {vb : Option Nat} {vd : Option (Option Addr × Nat × Nat)} {u : World} (h : Tst W m L none vb vd u) : Tst W m L (some (.slice (some ⟨u.heap.size, 0, none⟩) 0 0, [])) vb vd (u.alloc (.cells #[] 3)) := by
  have hb : Below u.heap.size u (u.alloc (.cells #[] 3)) := (Below.refl _ _).alloc (Nat.le_refl _) _
  refine ⟨h.below.trans (hb.mono h.below.size), ?_, fun g e => (hb.block g (blk_lt (h.lit g e))).trans (h.lit g e), ?_, fun a n c e => ⟨(h.rd a n c e).1.below hb (Nat.le_refl _), fun ad q => Nat.lt_of_lt_of_le ((h.rd a n c e).2 ad q) hb.size⟩, ?_⟩
  · intro v xs e
    simp only [Option.some.injEq, Prod.mk.injEq] at e
    obtain ⟨rfl, rfl⟩ := e
    exact Own.empty 3 W.heap.size u h.below.size
  · intro g v xs e1 e2
    simp only [Option.some.injEq, Prod.mk.injEq] at e2
    obtain ⟨rfl, rfl⟩ := e2
    have := blk_lt (h.lit g e1)
    simp only [Value.ownBlock, ne_eq, Option.some.injEq]
    omega
  · intro a n c v xs ad e1 e2 e3
    simp only [Option.some.injEq, Prod.mk.injEq] at e2
    obtain ⟨rfl, rfl⟩ := e2
    have := (h.rd a n c e1).2 ad e3
    simp only [Value.ownBlock, ne_eq, Option.some.injEq]
    omega
theorem Tst.allocB {W : World} {m : Int} {L : List Int} {va : Option (Value × List Int)} {vd : Option (Option Addr × Nat × Nat)} {u : World} (h : Tst W m L va none vd u) : Tst W m L va (some u.heap.size) vd (u.alloc (.cells #[.int .i64 m] 3)) := by
  have hb : Below u.heap.size u (u.alloc (.cells #[.int .i64 m] 3)) := (Below.refl _ _).alloc (Nat.le_refl _) _
  refine ⟨h.below.trans (hb.mono h.below.size), fun v xs e => (h.own v xs e).alloc _, ?_, ?_, fun a n c e => ⟨(h.rd a n c e).1.below hb (Nat.le_refl _), fun ad q => Nat.lt_of_lt_of_le ((h.rd a n c e).2 ad q) hb.size⟩, h.ned⟩
  · intro g e
    simp only [Option.some.injEq] at e
    subst e
    exact heap_alloc_new u _
  · intro g v xs e1 e2 q
    simp only [Option.some.injEq] at e1
    subst e1
    have := ((h.own v xs e2).lt q).2
    omega
/-- The other list has come. -/
theorem Tst.did {W : World} {m : Int} {L : List Int} {va : Option (Value × List Int)} {vb : Option Nat} {u u' : World} (h : Tst W m L va vb none u) (hva : ∀ v xs, va = some (v, xs) → ∃ g, v = .slice (some ⟨g, 0, none⟩) 0 0) (hL : 0 < L.length) {a : Option Addr} {n c : Nat} (hr : Rd .i64 u' a n c L) (hb : Below u.heap.size u u') : Tst W m L va vb (some (a, n, c)) u' := by
  have hn : 0 < n := by have := hr.len; omega
  obtain ⟨b, off, rfl, hlt, hc⟩ := hr.at hn
  refine ⟨h.below.trans (hb.mono h.below.size), fun v xs e => (h.own v xs e).below hb (Nat.le_refl _), fun g e => (hb.block g (blk_lt (h.lit g e))).trans (h.lit g e), h.nel, ?_, ?_⟩
  · intro a' n' c' e
    simp only [Option.some.injEq, Prod.mk.injEq] at e
    obtain ⟨rfl, rfl, rfl⟩ := e
    exact ⟨hr, fun ad q => by cases q; exact hlt⟩
  · intro a' n' c' v xs ad e1 e2 e3 q
    simp only [Option.some.injEq, Prod.mk.injEq] at e1
    obtain ⟨rfl, rfl, rfl⟩ := e1
    cases e3
    obtain ⟨g, rfl⟩ := hva v xs e2
    have ho := (h.own _ xs e2).below hb (Nat.le_refl _)
    simp only [Value.ownBlock, Option.some.injEq] at q
    subst q
    rcases ho.2 with ⟨e, _⟩ | ⟨g', cap, cur, hv, _, hh, h3, h4, h5, h6⟩
    · cases e
    · simp only [Value.slice.injEq, Option.some.injEq, Addr.mk.injEq] at hv
      obtain ⟨⟨rfl, _⟩, _, rfl⟩ := hv
      have hz : cur = #[] := Array.eq_empty_of_size_eq_zero (by simpa using h5)
      subst hz
      have h0 := hc 0 hn
      rw [cell_of_row _ _ _ _ _ _ hh] at h0
      simp at h0
/-- An append to the list. -/
theorem Tst.pushed {W : World} {m : Int} {L : List Int} {v v' : Value} {xs ys : List Int} {vb : Option Nat} {vd : Option (Option Addr × Nat × Nat)} {u u' : World} (h : Tst W m L (some (v, xs)) vb vd u) (ho : Own 3 W.heap.size u' v' (xs.map (Value.int .i64) ++ ys.map (Value.int .i64))) (hp : Pushed u u' v v') : Tst W m L (some (v', xs ++ ys)) vb vd u' := by
  have hb : Below W.heap.size u u' := hp.below h.below.size fun k hk => ((h.own v xs rfl).lt hk).1
  refine ⟨h.below.trans hb, ?_, fun g e => (hp.other (blk_lt (h.lit g e)) (h.nel g v xs e rfl)).trans (h.lit g e), ?_, ?_, ?_⟩
  · intro v2 x2 e
    simp only [Option.some.injEq, Prod.mk.injEq] at e
    obtain ⟨rfl, rfl⟩ := e
    rw [List.map_append]; exact ho
  · intro g v2 x2 e1 e
    simp only [Option.some.injEq, Prod.mk.injEq] at e
    obtain ⟨rfl, rfl⟩ := e
    exact hp.ne (blk_lt (h.lit g e1)) (h.nel g v xs e1 rfl)
  · intro a n c e
    refine ⟨?_, fun ad q => Nat.lt_of_lt_of_le ((h.rd a n c e).2 ad q) hp.size⟩
    obtain ⟨h1, h2, h3, h4, h5⟩ := (h.rd a n c e).1
    refine ⟨h1, h2, h3, h4, fun i hi => ?_⟩
    obtain ⟨b, off, q, hlt, hc⟩ := h5 i hi
    exact ⟨b, off, q, Nat.lt_of_lt_of_le hlt hp.size, (World.cell?_of_block (w := u) (a := ⟨b, off + i, none⟩) (hp.other (k := b) hlt (h.ned a n c v xs ⟨b, off, none⟩ e rfl q))).trans hc⟩
  · intro a n c v2 x2 ad e1 e e3
    simp only [Option.some.injEq, Prod.mk.injEq] at e
    obtain ⟨rfl, rfl⟩ := e
    exact hp.ne ((h.rd a n c e1).2 ad e3) (h.ned a n c v xs ad e1 rfl e3)
section
variable {W : World} {m : Int} {L : List Int} {v : Value} {xs : List Int} {vb : Option Nat} {vd : Option (Option Addr × Nat × Nat)} {u : World}
  {ops : Array Oper} {o : Oper} {a : Act} {K : Act → World → Prop} {Q : Exit → Act → World → Prop} {E' : Prop}
theorem Tst.step1 (hgd : o.guard = none) (s x : Operand) (ho : o.op = .call { callee := .builtin .append, args := #[s, x], argTypes := #[26, 26] })
    (hT : Tst W m L (some (v, xs)) vb vd u) (hs : a.eval s = v) (ys : List Int) (ad : Option Addr) (n c : Nat) (hx : a.eval x = .slice ad n c) (hr : ∀ u, Below W.heap.size W u → Rd .i64 u ad n c ys) (hlen : xs.length + n ≤ 1000)
    (h : ∀ v' u', Tst W m L (some (v', xs ++ ys)) vb vd u' → K (a.put o.dst v') u') : if Region.wanted o (yielded ops a.tmps) = true then Oper.wp Try.prog o a u K Q else E' := by
  have r := hr u hT.below
  refine step_join hgd s x 26 3 ho Try.underlying26 infoIntR rfl W.heap.size v (xs.map (Value.int .i64)) (ys.map (Value.int .i64)) (ints_one .i64 _) hs ad n c hx (by rw [List.length_map]; exact r.len) r.2.2.2.1 r.cells (hT.own v xs rfl) (by simp [maxLen]; omega) (by simp; omega) hT.below.size ?_
  intro v' u' o2 pu
  exact h v' u' (hT.pushed o2 pu)
theorem Tst.step2 {g : Nat} (hgd : o.guard = none) (s x : Operand) (ho : o.op = .call { callee := .builtin .append, args := #[s, x], argTypes := #[26, 26] })
    (hT : Tst W m L (some (v, xs)) (some g) vd u) (hs : a.eval s = v) (hx : a.eval x = .slice (some ⟨g, 0, none⟩) 1 1) (hlen : xs.length + 1 ≤ 1000)
    (h : ∀ v' u', Tst W m L (some (v', xs ++ [m])) (some g) vd u' → K (a.put o.dst v') u') : if Region.wanted o (yielded ops a.tmps) = true then Oper.wp Try.prog o a u K Q else E' := by
  have hl := hT.lit g rfl
  refine step_join hgd s x 26 3 ho Try.underlying26 infoIntR rfl W.heap.size v (xs.map (Value.int .i64)) ([m].map (Value.int .i64)) (ints_one .i64 _) hs (some ⟨g, 0, none⟩) 1 1 hx rfl (fun e => by cases e) ?_ (hT.own v xs rfl) (by simp [maxLen]; omega) (by simp; omega) hT.below.size ?_
  · intro ad' e j y hj
    cases e
    rw [Addr.add_lit, Nat.zero_add]
    exact blk_cell (l := [.int .i64 m]) hl hj
  · intro v' u' o2 pu
    exact h v' u' (hT.pushed o2 pu)
end
theorem Tst.same {W : World} {m : Int} {L : List Int} {vb : Option Nat} {u : World} {a a7 : Option Addr} {n c n7 c7 : Nat} (h : Tst W m L (some (.slice a7 n7 c7, L)) vb (some (a, n, c)) u) :
    Calls Try.prog 12 #[.slice a n c, .slice a7 n7 c7] u fun e u' => e = .returned (.bool true) ∧ Below W.heap.size W u' := by
  obtain ⟨a8, n8, c8, e, r⟩ := (h.own _ _ rfl).rd
  cases e
  refine (same_calls _ _ _ _ _ _ _ _ u (h.rd a n c rfl).1 r).mono ?_
  rintro e u' ⟨rfl, hb⟩
  exact ⟨by simp, h.below.trans (hb.mono h.below.size)⟩
theorem Tst.slice {W : World} {m : Int} {L : List Int} {v : Value} {xs : List Int} {vb : Option Nat} {vd : Option (Option Addr × Nat × Nat)} {u : World} (h : Tst W m L (some (v, xs)) vb vd u) : ∃ a n c, v = .slice a n c := own_any (h.own v xs rfl)

set_option maxHeartbeats 1000000 in
theorem fnDoTurn_walk (a0 : Option Addr) (n0 c0 : Nat) (x0 : List Int) (w : World) (h0 : Rd .u8 w a0 n0 c0 x0) (f0 : ∀ x ∈ x0, (Lit.int .u8 x).wf = true) (s0 : c0 * 1 ≤ 140737488351232) (d0 : ∀ ad, a0 = some ad → ad.block < w.heap.size) :
    Calls Try.prog 8 #[.slice a0 n0 c0] w fun e w' => e = .returned (.bool true) ∧ Below w.heap.size w w' := by
  have hnot : ∀ (x : Bool) (w : World), (Op.unary .not (.bool x)).run Try.prog w = .ok (.bool (!x)) w := fun _ _ => rfl
  have l := h0.le
  have hB := Lib.hid (bytes_of_wf f0)
  have hd0 := Lib.hid d0
  have h0' := Lib.hid h0
  clear f0 d0 h0
  go_enter Try.func8, Try.ntmps8
  go_wp2_with fail
  refine (large_calls a0 n0 c0 w (by omega)).mono ?_
  rintro e w' ⟨rfl, rfl⟩
  by_cases hbig : 1048576 < n0
  · have tb : decide (1048576 < n0) = true := by simpa using hbig
    go_wp2
    go_ret
    exact ⟨rfl, Below.refl _ _⟩
  have tb : decide (1048576 < n0) = false := by simpa using hbig
  clear hbig
  go_wp2_with fail
  refine (drawLen_calls w a0 n0 c0 x0 h0'.out hB.out hd0.out).mono ?_
  clear h0' hB hd0 tb
  rintro e w1 ⟨a1, n1, c1, xs, m, rfl, hz0, hm, hbw⟩
  have hz := Lib.hid hz0
  have hb0 := Lib.hid hbw
  have ht := hz0.t21
  clear hz0 hbw
  go_wp2_with fail
  refine (hz.out.fits m hm).mono ?_
  rintro e w' ⟨rfl, rfl⟩
  by_cases hi : m < tot xs
  case neg =>
    have tf : decide (m < tot xs) = false := by simpa using hi
    have ho := Lib.hid (show tot xs ≤ m by omega)
    rw [tf]
    clear hi tf
    go_wp2_with fail
    refine (hz.out.next_out m hm ho.out w1 (Below.refl _ _)).mono ?_
    rintro e w2 ⟨rfl, hb⟩
    go_wp2
    go_ret
    exact ⟨rfl, hb0.out.trans (hb.mono hb0.out.size)⟩
  have tf : decide (m < tot xs) = true := by simpa using hi
  rw [tf]
  have hi' := Lib.hid hi
  clear hi tf
  go_wp2_with fail
  refine (hz.out.do_in m hm hi'.out w1 (Below.refl _ _)).mono ?_
  rintro e w2 ⟨a2, n2, c2, rfl, hr2, hb2⟩
  have hz2 := Lib.hid (hz.out.below hb2 (Nat.le_refl _))
  have hb2' := Lib.hid (hb0.out.trans (hb2.mono hb0.out.size))
  have hr2' := Lib.hid hr2
  clear hr2 hb2 hz hb0
  go_wp2_with fail
  refine (hz2.out.next_in m hm hi'.out w2 (Below.refl _ _)).mono ?_
  rintro e W ⟨rfl, hbW⟩
  have hzW := Lib.hid (hz2.out.below hbW (Nat.le_refl _))
  have hB0 := Lib.hid (hb2'.out.trans (hbW.mono hb2'.out.size))
  have hr := hr2'.out.below hbW (Nat.le_refl _)
  have hlen := hr.len
  rw [nats_length] at hlen
  have hpos : 0 < n2 := by rw [← hlen]; exact from_mk_pos xs hi'.out
  have hn2 : n2 ≤ 21 := by rw [← hlen]; have := from_mk_le xs hi'.out; omega
  have hle := hr.le
  have hfn := mk_from_next xs hi'.out
  have hy := mv_mk_lt xs hi'.out 1
  obtain ⟨b, of, rfl, hbl, hcell⟩ := hr.at hpos
  have hc := hcell 0 hpos
  rw [mk_from_get xs hi'.out (k := 0) (by rw [hlen]; exact hpos), show ((0 : Nat) : Int) = 0 from rfl, mk_mv_zero xs hi'.out] at hc
  have hcR : Hid (∀ u, Below W.heap.size W u → Rd .i64 u (cutA (some ⟨b, of, none⟩) c2 1) (n2 - 1) (c2 - 1) ((nats (from' (mk xs) m)).drop 1)) := by
    intro u hu
    have := (hr.below hu (Nat.le_refl _)).cut (lo := 1) (hi := n2) (by omega) (Nat.le_refl _)
    rwa [List.take_of_length_le (by rw [nats_length, hlen]; exact Nat.le_refl _)] at this
  have hdo : Hid (∀ u, Below W.heap.size W u → Calls Try.prog 13 #[.slice a1 n1 c1, .int .u16 (mv (mk xs) m 1 : Nat)] u fun e u' => ∃ a n c, e = .returned (.slice a n c) ∧ Rd .i64 u' a n c ([] ++ (nats (from' (mk xs) m)).drop 1 ++ [(m : Int)]) ∧ Below u.heap.size u u') := by
    intro u hu
    refine ((hzW.out.below hu (Nat.le_refl _)).do_in _ (by omega) hy u (Below.refl _ _)).mono ?_
    rintro e u' ⟨a, n, c, rfl, r, q⟩
    refine ⟨a, n, c, rfl, ?_, q⟩
    rw [hfn] at r
    have e : ([] ++ (nats (from' (mk xs) m)).drop 1 ++ [(m : Int)]) = nats ((from' (mk xs) m).tail ++ [m]) := by simp [nats]
    rw [e]; exact r
  have hl1 : ([] ++ (nats (from' (mk xs) m)).drop 1).length ≤ 20 := by simp [nats_length, hlen]; omega
  generalize mv (mk xs) m 1 = y at hdo hy
  generalize (nats (from' (mk xs) m)).drop 1 = l0 at hdo hcR hl1
  clear hcell hr hr2' hz2 hb2' hlen hfn
  have hgo : Hid (∀ u, Below W.heap.size W u → u.cell? ⟨b, of, none⟩ = some (.int .i64 (m : Int)) ∧ Below W.heap.size W u) := by
    intro u hu
    refine ⟨?_, hu⟩
    rw [hu.cell (p := ⟨b, of, none⟩) hbl]; exact hc
  have hcut := fun u => run_cut_low (P := Try.prog) u 26 3 (some ⟨b, of, none⟩) n2 c2 1 .i64 Try.underlying26 sizeIntR 1 rfl (by omega)
  have hwr : IntKind.u16.wrap (y : Int) = (y : Int) := IntWalk.u16_in _ (by omega)
  have t0 : ((n2 : Int) == 0) = false := by simp; omega
  have hT0 : Tst W (m : Int) ([] ++ l0 ++ [(m : Int)]) none none none W.drew := (Tst.start _ _ _).drew
  have hTa : Tst W (m : Int) ([] ++ l0 ++ [(m : Int)]) _ none none (W.alloc (.cells #[] 3)).drew := (Tst.start W (m : Int) ([] ++ l0 ++ [(m : Int)])).allocA.drew
  have hTb : Tst W (m : Int) ([] ++ l0 ++ [(m : Int)]) none _ none (W.alloc (.cells #[.int .i64 (m : Int)] 3)).drew := (Tst.start W (m : Int) ([] ++ l0 ++ [(m : Int)])).allocB.drew
  have hTab : Tst W (m : Int) ([] ++ l0 ++ [(m : Int)]) _ _ none ((W.alloc (.cells #[] 3)).alloc (.cells #[.int .i64 (m : Int)] 3)).drew := (Tst.start W (m : Int) ([] ++ l0 ++ [(m : Int)])).allocA.allocB.drew
  have hTba : Tst W (m : Int) ([] ++ l0 ++ [(m : Int)]) _ _ none ((W.alloc (.cells #[.int .i64 (m : Int)] 3)).alloc (.cells #[] 3)).drew := (Tst.start W (m : Int) ([] ++ l0 ++ [(m : Int)])).allocB.allocA.drew
  have hdo2 : Hid (∀ u va vb, Tst W (m : Int) ([] ++ l0 ++ [(m : Int)]) va vb none u → (∀ v xs, va = some (v, xs) → ∃ g, v = .slice (some ⟨g, 0, none⟩) 0 0) → Calls Try.prog 13 #[.slice a1 n1 c1, .int .u16 (y : Int)] u fun e u' => ∃ a n c, e = .returned (.slice a n c) ∧ Tst W (m : Int) ([] ++ l0 ++ [(m : Int)]) va vb (some (a, n, c)) u') := by
    intro u va vb hT hva
    refine (hdo.out u hT.below).mono ?_
    rintro e u' ⟨a, n, c, rfl, r, q⟩
    exact ⟨a, n, c, rfl, hT.did hva (by simp) r q⟩
  clear hc hdo
  go_wp2
  go_region_held3 (fun u => u.cell? ⟨b, of, none⟩ = some (.int .i64 (m : Int)) ∧ Below W.heap.size W u) (first | with_reducible assumption | with_reducible exact hgo.out _ hb9 | exact hgo.out _ (Tst.below (by first | with_reducible assumption | with_reducible exact Tst.allocA (by first | with_reducible assumption | with_reducible exact Tst.allocB (by assumption)) | with_reducible exact Tst.allocB (by first | with_reducible assumption | with_reducible exact Tst.allocA (by assumption)))))
    (first
      | (go_at_call 13; ((with_reducible refine (hdo2.out _ _ _ (by first | with_reducible assumption | with_reducible exact Tst.allocA (by first | with_reducible assumption | with_reducible exact Tst.allocB (by assumption)) | with_reducible exact Tst.allocB (by first | with_reducible assumption | with_reducible exact Tst.allocA (by assumption))) (fun v xs e => by (first | (cases e; exact ⟨_, rfl⟩) | (cases e)))).mono ?_); rintro e x1 ⟨a5, n5, c5, rfl, hT5⟩))
      | (refine Tst.step1 (m := (m : Int)) (L := [] ++ l0 ++ [(m : Int)]) rfl (.tmp 39) (.tmp 41) rfl (by first | with_reducible assumption | with_reducible exact Tst.allocA (by first | with_reducible assumption | with_reducible exact Tst.allocB (by assumption)) | with_reducible exact Tst.allocB (by first | with_reducible assumption | with_reducible exact Tst.allocA (by assumption))) (by first | rfl | simp [Act.eval]) l0 _ _ _ rfl hcR.out (by simp only [List.length_nil]; omega) ?_; intro v1 x2 hT6)
      | (refine Tst.step2 (m := (m : Int)) (L := [] ++ l0 ++ [(m : Int)]) rfl (.tmp 42) (.tmp 46) rfl (by first | with_reducible assumption | with_reducible exact Tst.allocA (by first | with_reducible assumption | with_reducible exact Tst.allocB (by assumption)) | with_reducible exact Tst.allocB (by first | with_reducible assumption | with_reducible exact Tst.allocA (by assumption))) (by first | rfl | simp [Act.eval]) (by first | rfl | simp [Act.eval]) (by omega) ?_; intro v2 x3 hT7; obtain ⟨a7, n7, c7, rfl⟩ := hT7.slice)
      | (go_at_call 12; ((with_reducible refine (Tst.same (by assumption)).mono ?_); rintro e x4 ⟨rfl, hb9⟩)))
  all_goals
    go_wp2
    go_ret
    exact ⟨rfl, hB0.out.trans (hb9.mono hB0.out.size)⟩

end Go.Proofs.Ytjkpphenfcddlaa

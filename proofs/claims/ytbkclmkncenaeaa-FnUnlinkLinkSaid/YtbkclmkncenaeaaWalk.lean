/- impl.walk. -/
import Derived.Test.YtbkclmkncenaeaaRb
import Derived.Test.YtbkclmkncenaeaaRr
import Derived.Test.YtbkclmkncenaeaaLink
namespace Go.Proofs.Ytbkclmkncenaeaa
open Go.RowKit
open Go.Proofs.Ytbkclmkncenaeaa.Rm
set_option linter.unusedVariables false

/-- What impl.walk comes to. -/
def WalkPost (w : World) (Bk : Nat → Nat) (N : Nat) (nx pv : Nat → Nat) (l : List Nat) (e : Ending) (w' : World) : Prop :=
  ∃ a n c, e = .returned (.slice a n c) ∧ Rd .i64 w' a n c (nats l) ∧ (∀ ad, a = some ad → w.heap.size ≤ ad.block ∧ ad.block < w'.heap.size) ∧ Rg w' Bk N nx pv (vals N) ∧ RB Bk N w.heap.size w w'
/-- What the loop keeps. -/
structure Wlk (w0 w : World) (v : Value) (Bk : Nat → Nat) (N : Nat) (nx pv : Nat → Nat) (l : List Nat) : Prop where
  rg : Rg w Bk N nx pv (vals N)
  own : Own 3 w0.heap.size w v ((nats l).map (Value.int .i64))
  rb : RB Bk N w0.heap.size w0 w
theorem Wlk.push {w0 w w' : World} {v v' : Value} {Bk : Nat → Nat} {N : Nat} {nx pv : Nat → Nat} {l : List Nat} {x : Nat} (h : Wlk w0 w v Bk N nx pv l) (hB : ∀ j, j < N → Bk j < w0.heap.size)
    (ho : Own 3 w0.heap.size w' v' ((nats l).map (Value.int .i64) ++ [.int .i64 (x : Int)])) (hp : Pushed w w' v v') : Wlk w0 w' v' Bk N nx pv (l ++ [x]) := by
  refine ⟨h.rg.keep fun i hi => hp.other (h.rg.lt hi) (fun e => by have := (h.own.lt e).1; have := hB i hi; omega), ?_, h.rb.trans (rb_of_below (hp.below h.rb.size fun k hk => (h.own.lt hk).1) (Nat.le_refl _) _ _)⟩
  rw [nats_append, List.map_append]
  exact ho
theorem Wlk.same {w0 w w' : World} {v : Value} {Bk : Nat → Nat} {N : Nat} {nx pv : Nat → Nat} {l : List Nat} (h : Wlk w0 w v Bk N nx pv l) (hB : ∀ j, j < N → Bk j < w0.heap.size) (hr : Rg w' Bk N nx pv (vals N)) (hs : RSame Bk N w w') : Wlk w0 w' v Bk N nx pv l :=
  ⟨hr, h.own.keep fun k hk => hs.block k (fun i hi e => by have := (h.own.lt hk).1; have := hB i hi; omega), h.rb.trans (hs.rb _)⟩
theorem own_len {E : TypeId} {base : Nat} {w : World} {v : Value} {xs : List Value} (h : Own E base w v xs) : ∃ a c, v = .slice a xs.length c := by
  rcases h.form with ⟨rfl, rfl⟩ | ⟨g, cap, cur, rfl, _⟩
  · exact ⟨none, 0, rfl⟩
  · exact ⟨_, _, rfl⟩

theorem walk_nil (w : World) (Bk : Nat → Nat) (N : Nat) (nx pv : Nat → Nat) (h : Rg w Bk N nx pv (vals N)) :
    Calls Try.prog 33 #[.pointer none] w (WalkPost w Bk N nx pv []) := by
  go_enter Try.func33, Try.ntmps33
  go_wp2
  go_ret
  have hb : Below w.heap.size w (w.alloc (.cells #[] 3)) := (Below.refl _ _).alloc (Nat.le_refl _) _
  exact ⟨_, _, _, rfl, Rd.mk' rfl (Nat.le_refl _) (by unfold maxLen; omega) (fun h => by omega) (fun i hi => by omega), (by intro ad e; cases e; simp), h.keep fun i hi => hb.block _ (h.lt hi), rb_of_below hb (Nat.le_refl _) _ _⟩

set_option maxHeartbeats 400000 in
theorem walk_calls (w : World) (Bk : Nat → Nat) (N : Nat) (nx pv : Nat → Nat) (i : Nat) (l : List Nat) (h : Rg w Bk N nx pv (vals N)) (hi : i < N) (hr : Rm.Ring nx i l) (hl : l.length ≤ 65536) :
    Calls Try.prog 33 #[ptr (Bk i)] w (WalkPost w Bk N nx pv l) := by
  have hB := Lib.hid (fun j (hj : j < N) => h.lt hj)
  have hb : Below w.heap.size w (w.alloc (.cells #[] 3)) := (Below.refl _ _).alloc (Nat.le_refl _) _
  have h0 : Hid (Wlk w (w.alloc (.cells #[] 3)) (.slice (some ⟨w.heap.size, 0, none⟩) 0 0) Bk N nx pv (l.take 0)) := ⟨h.keep fun i hi => hb.block _ (h.lt hi), Own.empty _ _ _ (Nat.le_refl _), rb_of_below hb (Nat.le_refl _) _ _⟩
  have hp := hr.pos
  have hr' := Lib.hid hr
  clear h hb hr
  generalize hm : l.length = m at hl hp
  have hm' := Lib.hid hm
  clear hm
  go_enter Try.func33, Try.ntmps33
  go_wp2
  go_loopw [3, 4] (fun v p wr => ∃ k : Nat, k < m ∧ p = ptr (Bk (it nx k i)) ∧ Hid (Wlk w wr v Bk N nx pv (l.take k))) (fun v _ _ => m - lenV v)
  case atStart => exact ⟨0, hp, rfl, h0⟩
  case round =>
    clear h0
    obtain ⟨k, hk, rfl, hW⟩ := hrel
    obtain ⟨a1, c1, rfl⟩ := own_len hW.out.own
    have hlen : ((nats (l.take k)).map (Value.int .i64)).length = k := by have := hm'.out; simp [nats]; omega
    rw [hlen] at hW ⊢
    have hjk := hW.out.rg.inv.it_lt k hi
    have hix := hW.out.rg.index hjk
    have htk := Lib.hid (path_take hr'.out.path (show k < l.length by rw [hm'.out]; exact hk))
    have ej := Lib.hid (it_last nx k i)
    have hke : Hid (k + 1 < m → it nx (k + 1) i ≠ i) := fun q => Ring.it_ne hr'.out (by omega) (by rw [hm'.out]; exact q)
    have hkf : Hid (k + 1 = m → it nx (k + 1) i = i) := fun q => by rw [q, ← hm'.out]; exact hr'.out.it_len
    generalize it nx k i = j at hjk hix htk ej
    have hown := hW.out.own
    have hsz := hW.out.rb.size
    go_wp2_with (first
      | (at_builtin; refine wpl_push rfl (.tmp 10) (.tmp 13) 29 3 rfl Try.underlying29 infoIntR rfl w.heap.size _ _ (.int .i64 (j : Int)) rfl rfl rfl hown (by rw [hlen]; unfold maxLen; omega) (by rw [hlen]; omega) hsz ?_)
      | (refine hix.mono ?_; rintro e w3 ⟨rfl, rfl⟩))
    intro v' w4 ho hpu
    have hW4 := Lib.hid (hW.out.push hB.out ho hpu)
    clear hW ho hpu hix hown hsz hlen
    rw [← htk.out] at hW4
    obtain ⟨a2, c2, rfl⟩ := own_len hW4.out.own
    go_wp2_with fail
    refine (next_calls w4 Bk N nx pv _ j hW4.out.rg hjk).mono ?_
    rintro e w5 ⟨rfl, r1, _, r3⟩
    have hW5 := Lib.hid (hW4.out.same hB.out r1 r3)
    have tq := (r1.ptr_eq (r1.inv.nlt j hjk) hi).1
    clear r1 r3 hW4
    rw [← ej.out] at tq
    rw [← ej.out]
    have hlen : ((nats (l.take (k + 1))).map (Value.int .i64)).length = k + 1 := by have := hm'.out; simp [nats]; omega
    rw [hlen] at hW5 ⊢
    clear hlen
    by_cases hlt : k + 1 < m
    · rw [show decide (it nx (k + 1) i = i) = false by simp [hke.out hlt]] at tq
      go_wp2
      go_roundw
      case rel => exact ⟨k + 1, hlt, rfl, hW5⟩
      case measure => simp [lenV]; omega
    · have hfin : k + 1 = m := by omega
      rw [hkf.out hfin] at tq
      rw [hkf.out hfin]
      simp only [decide_true] at tq
      have hfin' := Lib.hid hfin
      clear hfin
      go_wp2
      go_ret
      have e : l.take (k + 1) = l := List.take_of_length_le (by rw [hm'.out, hfin'.out]; exact Nat.le_refl _)
      obtain ⟨w1, w2, w3⟩ := hW5.out
      rw [e] at w2
      obtain ⟨a3, n3, c3, hv, hrd⟩ := w2.rd
      cases hv
      exact ⟨_, _, _, rfl, hrd, (fun ad q => by have := w2.lt (k := ad.block) (by rw [q]; rfl); exact this), w1, w3⟩

end Go.Proofs.Ytbkclmkncenaeaa

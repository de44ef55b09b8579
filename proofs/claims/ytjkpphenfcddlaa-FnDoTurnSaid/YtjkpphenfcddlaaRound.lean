/- impl.round and impl.Do. -/
import Derived.Test.YtjkpphenfcddlaaDo
import Derived.Test.YtjkpphenfcddlaaRb
import Derived.Test.YtjkpphenfcddlaaFrom
namespace Go.Proofs.Ytjkpphenfcddlaa
open Go.RowKit
open Go.Proofs.Ytjkpphenfcddlaa.Rm
set_option linter.unusedVariables false

/-- What the closure of round keeps: its variable, and the list so far. -/
structure Rnd (Bk : Nat → Nat) (N : Nat) (w0 : World) (l : List Nat) (u : World) (v : Value) : Prop where
  rb : RB Bk N w0.heap.size w0 u
  var : u.heap[w0.heap.size + 1]? = some (.cells #[v] 26 (0, 0))
  own : Own 3 w0.heap.size u v ((nats l).map (Value.int .i64))
  ne : v.ownBlock ≠ some (w0.heap.size + 1)
theorem Rnd.push {Bk : Nat → Nat} {N : Nat} {w0 u u1 : World} {l : List Nat} {v v' : Value} {x : Nat} (h : Rnd Bk N w0 l u v)
    (ho : Own 3 w0.heap.size u1 v' ((nats l).map (Value.int .i64) ++ [.int .i64 (x : Int)])) (hp : Pushed u u1 v v') :
    Rnd Bk N w0 (l ++ [x]) (u1.setCell ⟨w0.heap.size + 1, 0, none⟩ v') v' := by
  have hA := blk_lt h.var
  have hne' := hp.ne hA h.ne
  have e1 : u1.heap[w0.heap.size + 1]? = some (.cells #[v] 26 (0, 0)) := (hp.other hA h.ne).trans h.var
  refine ⟨h.rb.trans (rb_of_below (B := w0.heap.size) (B' := w0.heap.size) (below_set (hp.below h.rb.size (fun k hk => (h.own.lt hk).1)) (by omega)) (Nat.le_refl _) _ _), blk_set (l := [v]) e1, ?_, hne'⟩
  rw [nats_append, List.map_append]
  exact ho.keep fun k hk => blk_other fun e => hne' (by rw [hk, e])

set_option maxHeartbeats 400000 in
theorem roundBody_calls (Bk : Nat → Nat) (N : Nat) (w0 u : World) (l : List Nat) (v : Value) (x : Nat) (h : Rnd Bk N w0 l u v) (hl : l.length ≤ 100000) :
    Calls Try.prog 44 #[.iface 3 (.int .i64 (x : Int)), ptr (w0.heap.size + 1)] u fun e u' =>
      e = .returned (.tuple #[]) ∧ (∃ v', Rnd Bk N w0 (l ++ [x]) u' v') ∧ ∀ k, k < w0.heap.size → u'.heap[k]? = u.heap[k]? := by
  have hnot : ∀ (x : Bool) (w : World), (Op.unary .not (.bool x)).run Try.prog w = .ok (.bool (!x)) w := fun _ _ => rfl
  have hta := run_assert_int (x : Int)
  have c1 : u.cell? ⟨w0.heap.size + 1, 0, none⟩ = some v := blk_cell (l := [v]) h.var rfl
  obtain ⟨a1, n1, k1, rfl, _⟩ := h.own.rd
  have hlen : ((nats l).map (Value.int .i64)).length = l.length := by simp [nats]
  have hsz := h.rb.size
  go_enter Try.func44, Try.ntmps44
  go_wp2_with (first
    | (at_builtin; refine wpl_push rfl (.tmp 12) (.tmp 14) 26 3 rfl Try.underlying26 infoIntR rfl w0.heap.size _ _ (.int .i64 (x : Int)) rfl rfl rfl h.own (by rw [hlen]; unfold maxLen; omega) (by rw [hlen]; omega) hsz ?_))
  intro v' w1 ho hp
  have R := h.push ho hp
  have hx1 := blk_lt h.var
  have hx2 : w1.heap[w0.heap.size + 1]? = some (.cells [Value.slice a1 n1 k1].toArray 26 (0, 0)) := (hp.other hx1 h.ne).trans h.var
  have hc2 : w1.cell? ⟨w0.heap.size + 1, 0, none⟩ = some (.slice a1 n1 k1) := blk_cell hx2 rfl
  have hf2 : w1.frozen? ⟨w0.heap.size + 1, 0, none⟩ = false := blk_free hx2
  have hold : Hid (∀ k, k < w0.heap.size → (w1.setCell ⟨w0.heap.size + 1, 0, none⟩ v').heap[k]? = u.heap[k]?) := by
    intro k hk
    rw [blk_other (by omega)]
    exact hp.other (by omega) (fun e => by have := (h.own.lt e).1; omega)
  obtain ⟨a2, n2, c2, hv⟩ := own_any ho
  rw [hv] at R hold
  have hR := Lib.hid R
  clear R hx2 ho hp c1 h hsz hx1
  rw [hv]
  clear hv
  go_wp2
  go_end0
  exact ⟨rfl, ⟨_, hR.out⟩, hold.out⟩

/-- What impl.round comes to. -/
def RoundPost (w : World) (Bk : Nat → Nat) (N : Nat) (nx pv : Nat → Nat) (l : List Nat) (e : Ending) (w' : World) : Prop :=
  ∃ a n c, e = .returned (.slice a n c) ∧ Rd .i64 w' a n c (nats l) ∧ Rg w' Bk N nx pv (vals N) ∧ RB Bk N w.heap.size w w'

theorem rnd_start (Bk : Nat → Nat) (N : Nat) (w : World) : Rnd Bk N w [] ((w.alloc (.cells #[] 3)).alloc (.cells #[.slice (some ⟨w.heap.size, 0, none⟩) 0 0] 26)) (.slice (some ⟨w.heap.size, 0, none⟩) 0 0) := by
  have s1 : (w.alloc (.cells #[] 3)).heap.size = w.heap.size + 1 := by simp
  refine ⟨rb_of_below (((Below.refl w.heap.size w).alloc (Nat.le_refl _) _).alloc (by omega) _) (Nat.le_refl _) _ _, ?_, (Own.empty 3 w.heap.size w (Nat.le_refl _)).alloc _, by simp [Value.ownBlock]⟩
  have := heap_alloc_new (w.alloc (.cells #[] 3)) (.cells #[.slice (some ⟨w.heap.size, 0, none⟩) 0 0] 26)
  rw [s1] at this
  exact this
theorem round_steps (w : World) (Bk : Nat → Nat) (N : Nat) (nx pv : Nat → Nat) (i : Nat) (l : List Nat) (hI : Inv N nx pv) (hi : i < N) (hr : Rm.Ring nx i l) (hl : l.length ≤ 65536) (hB : ∀ j, j < N → Bk j < w.heap.size) :
    Steps (fun v u => Calls Try.prog 44 #[v, ptr (w.heap.size + 1)] u) Bk N nx pv (vals N) (fun k u => ∃ v, Rnd Bk N w (l.take k) u v) i l.length := by
  refine ⟨?_, ?_⟩
  · rintro k u u' ⟨v, h⟩ r
    refine ⟨v, h.rb.trans (r.rb _), (r.block _ (fun j hj => by have := hB j hj; omega)).trans h.var, h.own.keep fun q hq => r.block _ (fun j hj e => ?_), h.ne⟩
    have := (h.own.lt hq).1
    have := hB j hj
    omega
  · rintro k u hk hg ⟨v, h⟩
    have hlt := hI.it_lt k hi
    have ev : vals N (it nx k i) = .iface 3 (.int .i64 ((it nx k i : Nat) : Int)) := by simp [vals, hlt]
    rw [ev]
    refine (roundBody_calls Bk N w u (l.take k) v (it nx k i) h (by simp; omega)).mono ?_
    rintro e u' ⟨rfl, hR, hO⟩
    exact ⟨rfl, by rw [path_take hr.path hk]; exact hR, fun j hj => hO _ (hB j hj)⟩

set_option maxHeartbeats 400000 in
theorem round_calls (w : World) (Bk : Nat → Nat) (N : Nat) (nx pv : Nat → Nat) (i : Nat) (l : List Nat) (h : Rg w Bk N nx pv (vals N)) (hi : i < N) (hr : Rm.Ring nx i l) (hl : l.length ≤ 65536) :
    Calls Try.prog 32 #[ptr (Bk i)] w (RoundPost w Bk N nx pv l) := by
  have hmf : ∀ (fn : Fn) (first cap : Array Value) (w : World), (Instr.makeFunc fn first cap).run Try.prog w = .ok (.func fn first cap) w := fun _ _ _ _ => rfl
  have hb0 : Below w.heap.size w ((w.alloc (.cells #[] 3)).alloc (.cells #[.slice (some ⟨w.heap.size, 0, none⟩) 0 0] 26)) := ((Below.refl w.heap.size w).alloc (Nat.le_refl _) _).alloc (by simp) _
  have hst : ∃ v, Rnd Bk N w (l.take 0) ((w.alloc (.cells #[] 3)).alloc (.cells #[.slice (some ⟨w.heap.size, 0, none⟩) 0 0] 26)) v := ⟨_, rnd_start Bk N w⟩
  have hdo := do_one _ Bk N nx pv (vals N) i l 44 (ptr (w.heap.size + 1)) _ (enters Try.func44 (by kernel_rfl) rfl) (h.keep fun j hj => hb0.block _ (h.lt hj)) hi hr hst (round_steps w Bk N nx pv i l h.inv hi hr hl (fun j hj => h.lt hj))
  clear hst hb0
  go_enter Try.func32, Try.ntmps32
  go_wp2_with fail
  refine hdo.mono ?_
  rintro e w4 ⟨rfl, ⟨v, h5⟩, h6⟩
  clear hdo
  have c1 : w4.cell? ⟨w.heap.size + 1, 0, none⟩ = some v := blk_cell (l := [v]) h5.var rfl
  obtain ⟨a1, n1, k1, rfl, hrd⟩ := h5.own.rd
  have hrb := h5.rb
  rw [List.take_length] at hrd
  have h6' := Lib.hid h6
  have hrd' := Lib.hid hrd
  have hrb' := Lib.hid hrb
  clear h5 h6 hrd hrb h hr
  go_wp2
  go_ret
  exact ⟨a1, n1, k1, rfl, hrd'.out, h6'.out, hrb'.out⟩

theorem iDo_out (w : World) (a : Option Addr) (n c : Nat) (xs : List Int) (i : Nat) (h : Rd .u16 w a n c xs) (hf : ∀ x ∈ xs, (Lit.int .u16 x).wf = true) (hn : n ≤ 140737488351232) (ht : tot xs ≤ 65536) (hi : tot xs ≤ i) (hi2 : i ≤ 65535) :
    Calls Try.prog 13 #[.slice a n c, .int .u16 (i : Int)] w (ListOut w []) := by
  go_enter Try.func13, Try.ntmps13
  go_wp2_with fail
  refine (made_calls w a n c xs h hf hn ht).mono ?_
  rintro e w1 ⟨v, Bk, nx, pv, rfl, hM, hR⟩
  obtain ⟨a1, c1, rfl, l1, l2, hat⟩ := hM.at
  have hb := hM.below
  clear hM hR hat h hf
  go_wp2
  go_ret
  exact ⟨_, _, _, rfl, Rd.mk' rfl (Nat.le_refl _) (by unfold maxLen; omega) (fun h => by omega) (fun i hi => by omega), hb.alloc hb.size _⟩
theorem iDo_in (w : World) (a : Option Addr) (n c : Nat) (xs : List Int) (i : Nat) (h : Rd .u16 w a n c xs) (hf : ∀ x ∈ xs, (Lit.int .u16 x).wf = true) (hn : n ≤ 140737488351232) (ht : tot xs ≤ 65536) (hi : i < tot xs) (hi2 : i ≤ 65535) :
    Calls Try.prog 13 #[.slice a n c, .int .u16 (i : Int)] w (ListOut w (nats (from' (mk xs) i))) := by
  go_enter Try.func13, Try.ntmps13
  go_wp2_with fail
  refine (made_calls w a n c xs h hf hn ht).mono ?_
  rintro e w1 ⟨v, Bk, nx, pv, rfl, hM, hR⟩
  obtain ⟨a1, c1, rfl, l1, l2, hat⟩ := hM.at
  obtain ⟨b, off, rfl, hc⟩ := hat i hi
  have hM' := Lib.hid hM
  have hR' := Lib.hid hR
  clear hM hR hat h hf
  go_wp2_with fail
  refine (round_calls w1 Bk _ nx pv i _ hM'.out.rg hi (hR'.out.from_ring hi) (Nat.le_trans (hR'.out.len_le hi) ht)).mono ?_
  rintro e w2 ⟨a2, n2, c2, rfl, r1, _, r3⟩
  have hb := hM'.out.below.trans (r3.below hM'.out.below.size hM'.out.hi)
  have r1' := Lib.hid r1
  clear r1 r3 hM' hR' hc
  go_wp2
  go_ret
  exact ⟨_, _, _, rfl, r1'.out, hb⟩

end Go.Proofs.Ytjkpphenfcddlaa

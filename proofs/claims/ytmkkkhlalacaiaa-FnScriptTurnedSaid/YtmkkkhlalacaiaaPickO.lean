/- What the loops that pick calls of a script keep. Written by gendrawnf.py. -/
import Derived.Test.YtmkkkhlalacaiaaStr
import Derived.Deep.RegionHeld3
namespace Go.Proofs.Ytmkkkhlalacaiaa
open Go.RowKit
open Go.Proofs.Ytmkkkhlalacaiaa.Rm
set_option linter.unusedVariables false

theorem rdo_one (w : World) (p : OpV) (T : TypeId) : RdO (w.alloc (.cells #[.string p.kind, .int .u16 (p.at' : Int), .int .u16 (p.to : Int), .int .i64 p.n] T)) (some ⟨w.heap.size, 0, none⟩) 1 1 [p] := by
  have hb := heap_alloc_new w (.cells #[.string p.kind, .int .u16 (p.at' : Int), .int .u16 (p.to : Int), .int .i64 p.n] T)
  refine ⟨rfl, Nat.le_refl _, by omega, fun i o h => ?_⟩
  match i, h with
  | 0, h =>
    obtain rfl : p = o := by simpa using h
    exact ⟨_, 0, rfl, blk_lt hb, blk_cell (l := [_, _, _, _]) hb rfl, blk_cell (l := [_, _, _, _]) hb rfl, blk_cell (l := [_, _, _, _]) hb rfl, blk_cell (l := [_, _, _, _]) hb rfl⟩
  | i + 1, h => simp at h
/-- The looking calls of a script, each twice. -/
def looks (N : Nat) (ps : List OpV) : List OpV := twice (ps.filter (lookB N))
theorem looks_snoc (N : Nat) (ps : List OpV) (p : OpV) : looks N (ps ++ [p]) = looks N ps ++ if lookB N p = true then [p, p] else [] := by
  unfold looks twice
  rw [List.filter_append, List.flatMap_append]
  congr 1
  by_cases h : lookB N p = true
  · rw [if_pos h]; simp [h]
  · rw [if_neg h]; simp [h]
theorem looks_len (N : Nat) (ps : List OpV) : (looks N ps).length ≤ 2 * ps.length := by
  have h1 : ∀ qs : List OpV, (twice qs).length = 2 * qs.length := by
    intro qs
    induction qs with
    | nil => rfl
    | cons q qs ih => simp only [twice, List.flatMap_cons, List.length_append, List.length_cons, List.length_nil] at ih ⊢; omega
  unfold looks
  rw [h1]
  have := List.length_filter_le (lookB N) ps
  omega
theorem RdO.keep {w w' : World} {a : Option Addr} {n c : Nat} {ps : List OpV} (h : RdO w a n c ps) (hs : w.heap.size ≤ w'.heap.size) (hk : ∀ ad, a = some ad → w'.heap[ad.block]? = w.heap[ad.block]?) : RdO w' a n c ps := by
  obtain ⟨h1, h2, h3, h4⟩ := h
  refine ⟨h1, h2, h3, fun i p hp => ?_⟩
  obtain ⟨b, off, e, hlt, c0, c1, c2, c3⟩ := h4 i p hp
  have k : ∀ o, w'.cell? ⟨b, o, none⟩ = w.cell? ⟨b, o, none⟩ := fun o => World.cell?_of_block (w := w) (hk ⟨b, off, none⟩ e)
  exact ⟨b, off, e, Nat.lt_of_lt_of_le hlt hs, by rw [k]; exact c0, by rw [k]; exact c1, by rw [k]; exact c2, by rw [k]; exact c3⟩
/-- What the loop that picks calls keeps. -/
structure PickAt (w1 w : World) (v : Value) (qs : List OpV) (a4 : Option Addr) (n4 c4 : Nat) (ps : List OpV) : Prop where
  own : OwnO 47 w1.heap.size w v qs
  below : Below w1.heap.size w1 w
  rd : RdO w a4 n4 c4 ps
  ne : ∀ ad, a4 = some ad → v.ownBlock ≠ some ad.block ∧ ad.block < w.heap.size
theorem PickAt.to {w1 w w' : World} {v : Value} {qs : List OpV} {a4 : Option Addr} {n4 c4 : Nat} {ps : List OpV} (h : PickAt w1 w v qs a4 n4 c4 ps) (hb : Below w.heap.size w w') : PickAt w1 w' v qs a4 n4 c4 ps :=
  ⟨h.own.below hb (Nat.le_refl _), h.below.trans (hb.mono h.below.size), h.rd.below hb (Nat.le_refl _), fun ad e => ⟨(h.ne ad e).1, Nat.lt_of_lt_of_le (h.ne ad e).2 hb.size⟩⟩
theorem PickAt.push {w1 w w' : World} {v v' : Value} {qs qs' : List OpV} {a4 : Option Addr} {n4 c4 : Nat} {ps : List OpV} (h : PickAt w1 w v qs a4 n4 c4 ps) (ho : OwnO 47 w1.heap.size w' v' qs') (hp : Pushed w w' v v') : PickAt w1 w' v' qs' a4 n4 c4 ps :=
  ⟨ho, h.below.trans (hp.below h.below.size fun k hk => (h.own.lt hk).1), h.rd.keep hp.size (fun ad e => hp.other (h.ne ad e).2 (h.ne ad e).1), fun ad e => ⟨hp.ne (h.ne ad e).2 (h.ne ad e).1, Nat.lt_of_lt_of_le (h.ne ad e).2 hp.size⟩⟩

theorem looks_even (N : Nat) (ps : List OpV) : (looks N ps).length % 2 = 0 := by
  have h1 : ∀ qs : List OpV, (twice qs).length = 2 * qs.length := by
    intro qs
    induction qs with
    | nil => rfl
    | cons q qs ih => simp only [twice, List.flatMap_cons, List.length_append, List.length_cons, List.length_nil] at ih ⊢; omega
  unfold looks
  rw [h1]
  omega
theorem looks_ok {N : Nat} {ps : List OpV} (h : OpsOk ps) : OpsOk (looks N ps) := by
  intro p hp
  unfold looks twice at hp
  simp only [List.mem_flatMap, List.mem_filter, List.mem_cons, List.not_mem_nil, or_false, or_self] at hp
  obtain ⟨q, hq, rfl⟩ := hp
  exact h _ hq.1
theorem pair_get (f : OpV → Int) : ∀ (qs : List OpV) (j : Nat), j % 2 = 0 → (qs.flatMap fun p => [f p, f p]).getD (j + 1) 0 = (qs.flatMap fun p => [f p, f p]).getD j 0
  | [], j, _ => by simp
  | q :: qs, 0, _ => by simp
  | q :: qs, 1, h => by omega
  | q :: qs, j + 2, h => by
    have := pair_get f qs j (by omega)
    simpa using this
theorem looks_run (N : Nat) (t : List (List Nat)) (ps : List OpV) : ∃ l, runR N t (looks N ps) = (l, t) ∧ l.length = (looks N ps).length ∧ ∀ j, j % 2 = 0 → l.getD (j + 1) 0 = l.getD j 0 := by
  have h := look_run (N := N) (t := t) (qs := ps.filter (lookB N)) fun p hp => (List.mem_filter.1 hp).2
  refine ⟨_, h, ?_, pair_get _ _⟩
  have e := runR_len N t (looks N ps)
  unfold looks at e ⊢
  rw [h] at e
  exact e
/-- The links of a script. -/
def links (N : Nat) (ps : List OpV) : List OpV := ps.filter (linkB' N)
theorem links_snoc (N : Nat) (ps : List OpV) (p : OpV) : links N (ps ++ [p]) = links N ps ++ if linkB' N p = true then [p] else [] := by
  unfold links
  rw [List.filter_append]
  congr 1
  by_cases h : linkB' N p = true
  · rw [if_pos h]; simp [h]
  · rw [if_neg h]; simp [h]
theorem links_len (N : Nat) (ps : List OpV) : (links N ps).length ≤ ps.length := List.length_filter_le _ _
theorem links_all {N : Nat} {ps : List OpV} : ∀ p, p ∈ links N ps → linkB' N p = true := fun p hp => (List.mem_filter.1 hp).2
theorem links_ok {N : Nat} {ps : List OpV} (h : OpsOk ps) : OpsOk (links N ps) := fun p hp => h p (List.mem_filter.1 hp).1
/-- What the links of a script return are elements. -/
theorem link_outs {N : Nat} : ∀ {qs : List OpV} {t : List (List Nat)}, (∀ p, p ∈ qs → linkB' N p = true) → (∃ nx pv, Inv N nx pv ∧ Rep N nx t) → ∀ x, x ∈ (runR N t qs).1 → ∃ m : Nat, x = (m : Int) ∧ m < N
  | [], t, _, _, x, hx => by simp [runR] at hx
  | p :: qs, t, hp, ⟨nx, pv, h1, h2⟩, x, hx => by
    have hl := hp p (by simp)
    obtain ⟨e1, e2⟩ := link_st (t := t) hl
    have hin := fitsP_in (Bool.and_eq_true_iff.1 hl).2
    rw [runR_cons, e1, e2] at hx
    rcases List.mem_cons.1 hx with rfl | hx
    · exact ⟨_, rfl, h2.mv_lt h1 hin.1 1⟩
    · exact link_outs (fun q hq => hp q (by simp [hq])) ⟨_, _, h1.link hin.1 hin.2, h2.link h1 hin.1 hin.2⟩ x hx
/-- The links back so far: those of the calls from j on. -/
def undoTo (qs : List OpV) (os : List Int) (j : Nat) : List OpV := (((qs.zip os).drop j).map fun x => (⟨bLink, x.1.at', x.2.toNat, 0⟩ : OpV)).reverse
theorem undoTo_zero (qs : List OpV) (os : List Int) : undoTo qs os 0 = undo qs os := rfl
theorem undoTo_all (qs : List OpV) (os : List Int) : undoTo qs os qs.length = [] := by
  unfold undoTo
  rw [List.drop_eq_nil_of_le (by rw [List.length_zip]; omega)]
  rfl
theorem undoTo_step {qs : List OpV} {os : List Int} {j : Nat} {p : OpV} {m : Nat} (h1 : qs[j]? = some p) (h2 : os[j]? = some (m : Int)) : undoTo qs os j = undoTo qs os (j + 1) ++ [⟨bLink, p.at', m, 0⟩] := by
  have hz : (qs.zip os)[j]? = some (p, (m : Int)) := by rw [List.getElem?_zip_eq_some]; exact ⟨h1, h2⟩
  obtain ⟨hlt, he⟩ := List.getElem?_eq_some_iff.1 hz
  unfold undoTo
  rw [List.drop_eq_getElem_cons hlt, he]
  simp
theorem undoTo_len (qs : List OpV) (os : List Int) (j : Nat) : (undoTo qs os j).length ≤ qs.length := by
  unfold undoTo
  simp only [List.length_reverse, List.length_map, List.length_drop, List.length_zip]
  omega
theorem undoTo_ok {N : Nat} {qs : List OpV} {os : List Int} (hN : N ≤ 65536) (hq : OpsOk qs) (ho : ∀ x, x ∈ os → ∃ m : Nat, x = (m : Int) ∧ m < N) (j : Nat) : OpsOk (undoTo qs os j) := by
  intro p hp
  unfold undoTo at hp
  rw [List.mem_reverse, List.mem_map] at hp
  obtain ⟨⟨q, x⟩, hx, rfl⟩ := hp
  have hx' := List.of_mem_zip (List.mem_of_mem_drop hx)
  obtain ⟨m, rfl, hm⟩ := ho x hx'.2
  have := hq q hx'.1
  simp only [Int.toNat_natCast]
  omega
theorem OpsOk.append {ps qs : List OpV} (h : OpsOk ps) (h' : OpsOk qs) : OpsOk (ps ++ qs) := fun p hp => (List.mem_append.1 hp).elim (h p) (h' p)
/-- What the loop that links back keeps. -/
structure BackAt (w1 w : World) (v : Value) (qs : List OpV) (a5 : Option Addr) (n5 c5 : Nat) (l1 : List Int) : Prop where
  own : OwnO 47 w1.heap.size w v qs
  below : Below w1.heap.size w1 w
  rd : Rd .i64 w a5 n5 c5 l1
  ne : ∀ ad, a5 = some ad → v.ownBlock ≠ some ad.block ∧ ad.block < w.heap.size
theorem BackAt.push {w1 w w' : World} {v v' : Value} {qs qs' : List OpV} {a5 : Option Addr} {n5 c5 : Nat} {l1 : List Int} (h : BackAt w1 w v qs a5 n5 c5 l1) (ho : OwnO 47 w1.heap.size w' v' qs') (hp : Pushed w w' v v') : BackAt w1 w' v' qs' a5 n5 c5 l1 := by
  refine ⟨ho, h.below.trans (hp.below h.below.size fun k hk => (h.own.lt hk).1), ?_, fun ad e => ⟨hp.ne (h.ne ad e).2 (h.ne ad e).1, Nat.lt_of_lt_of_le (h.ne ad e).2 hp.size⟩⟩
  obtain ⟨h1, h2, h3, h4, h5⟩ := h.rd
  refine ⟨h1, h2, h3, h4, fun i hi => ?_⟩
  obtain ⟨b, off, q, hlt, hc⟩ := h5 i hi
  exact ⟨b, off, q, Nat.lt_of_lt_of_le hlt hp.size, (World.cell?_of_block (w := w) (a := ⟨b, off + i, none⟩) (hp.other (k := b) hlt (h.ne ⟨b, off, none⟩ q).1)).trans hc⟩
theorem BackAt.drew {w1 w : World} {v : Value} {qs : List OpV} {a5 : Option Addr} {n5 c5 : Nat} {l1 : List Int} (h : BackAt w1 w v qs a5 n5 c5 l1) : BackAt w1 w.drew v qs a5 n5 c5 l1 := ⟨h.own.drew, below_drewN h.below 1, h.rd, h.ne⟩
/-- What is done at the end: the lengths are right, and the next elements are the same. -/
theorem Szs.made_on {W : World} {a : Option Addr} {n c : Nat} {xs : List Int} (h : Szs W a n c xs) (u : World) (hu : Below W.heap.size W u) :
    Calls Try.prog 9 #[.slice a n c] u fun e u' => ∃ a2 n2 c2, e = .returned (.slice a2 n2 c2) ∧ Rr u' a2 n2 c2 (mk xs) ∧ Below u.heap.size u u' := (h.below hu (Nat.le_refl _)).made u (Below.refl _ _)
theorem fits_one (xs : List Int) (ht : tot xs ≤ 21) (p : OpV) (hp : p.at' ≤ 65535 ∧ p.to ≤ 65535 ∧ -9223372036854775808 ≤ p.n ∧ p.n ≤ 9223372036854775806) (fb : Bool) (hf : fitsP (tot xs) p = fb) (u : World) (a : Option Addr) (n c : Nat) (oa : Option Addr) (on oc : Nat) (hr : Rr u a n c (mk xs)) (ho : RdO u oa on oc [p]) :
    Calls Try.prog 11 #[.slice a n c, .slice oa on oc] u fun e u' => e = .returned (.bool fb) ∧ Below u.heap.size u u' := by
  have hn := ho.1
  have := fitsO_calls u a n c (mk xs) oa on oc [p] hr (by rw [cnt_mk]; omega) ho (by simp at hn; omega) (by intro q hq; simp at hq; subst hq; exact hp)
  rw [cnt_mk] at this
  have e : fitsO (tot xs) [p] = fb := by simp [fitsO, hf]
  rwa [e] at this

end Go.Proofs.Ytmkkkhlalacaiaa

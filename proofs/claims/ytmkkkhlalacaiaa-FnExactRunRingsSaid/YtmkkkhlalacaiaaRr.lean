/- Lists of rings as the reference keeps them in memory, and spec.Made. -/
import Derived.Test.YtmkkkhlalacaiaaFits
namespace Go.Proofs.Ytmkkkhlalacaiaa
open Go.RowKit
open Go.Proofs.Ytmkkkhlalacaiaa.Rm
set_option linter.unusedVariables false

theorem infoIntR : (Try.prog.info? 3).map (fun i => (i.zero, i.size, i.bytes)) = some (some (.int .i64 0), 1, 8) := by kernel_rfl
theorem infoInts : (Try.prog.info? 33).map (fun i => (i.zero, i.size, i.bytes)) = some (some (.slice none 0 0), 1, 24) := by kernel_rfl
/-- Indices as numbers. -/
def nats (l : List Nat) : List Int := l.map fun k : Nat => (k : Int)
theorem nats_length (l : List Nat) : (nats l).length = l.length := by simp [nats]
theorem nats_append (l r : List Nat) : nats (l ++ r) = nats l ++ nats r := by simp [nats]

theorem Rd.keep {k : IntKind} {w w' : World} {a : Option Addr} {n c : Nat} {xs : List Int} (h : Rd k w a n c xs) (hs : w.heap.size ≤ w'.heap.size) (hk : ∀ ad, a = some ad → w'.heap[ad.block]? = w.heap[ad.block]?) : Rd k w' a n c xs := by
  obtain ⟨h1, h2, h3, h4, h5⟩ := h
  refine ⟨h1, h2, h3, h4, fun i hi => ?_⟩
  obtain ⟨b, off, e, hlt, hc⟩ := h5 i hi
  refine ⟨b, off, e, Nat.lt_of_lt_of_le hlt hs, ?_⟩
  have hq := hk _ e
  simp only at hq
  simp only [World.cell?, hq] at hc ⊢
  exact hc

/-- A slice of slices that is read: the rings t. -/
def Rr (w : World) (a : Option Addr) (n c : Nat) (t : List (List Nat)) : Prop :=
  t.length = n ∧ n ≤ c ∧ c ≤ 9223372036854775807 ∧ ∀ (i : Nat) l, t[i]? = some l → ∃ b off ai ni ci, a = some ⟨b, off, none⟩ ∧ b < w.heap.size ∧ w.cell? ⟨b, off + i, none⟩ = some (.slice ai ni ci) ∧ Rd .i64 w ai ni ci (nats l)
theorem Rr.below {w w' : World} {a : Option Addr} {n c : Nat} {t : List (List Nat)} {B : Nat} (h : Rr w a n c t) (hb : Below B w w') (hB : w.heap.size ≤ B) : Rr w' a n c t := by
  obtain ⟨h1, h2, h3, h4⟩ := h
  refine ⟨h1, h2, h3, fun i l hl => ?_⟩
  obtain ⟨b, off, ai, ni, ci, e, hlt, hc, hr⟩ := h4 i l hl
  exact ⟨b, off, ai, ni, ci, e, Nat.lt_of_lt_of_le hlt hb.size, by rw [hb.cell (p := ⟨b, off + i, none⟩) (by show b < B; omega)]; exact hc, hr.below hb hB⟩

/-- A slice of slices that is made: the rings t so far. -/
def Rls (base : Nat) (w : World) (v : Value) (t : List (List Nat)) : Prop :=
  ∃ vs : List Value, Own 33 base w v vs ∧ vs.length = t.length ∧ ∀ (i : Nat) l, t[i]? = some l → ∃ a n c, vs[i]? = some (Value.slice a n c) ∧ Rd .i64 w a n c (nats l) ∧ ∀ ad, a = some ad → v.ownBlock ≠ some ad.block ∧ ad.block < w.heap.size
theorem Rls.below {base B : Nat} {w w' : World} {v : Value} {t : List (List Nat)} (h : Rls base w v t) (hb : Below B w w') (hB : w.heap.size ≤ B) : Rls base w' v t := by
  obtain ⟨vs, h1, h2, h3⟩ := h
  refine ⟨vs, h1.below hb hB, h2, fun i l hl => ?_⟩
  obtain ⟨a, n, c, e, hr, hn⟩ := h3 i l hl
  exact ⟨a, n, c, e, hr.below hb hB, fun ad ha => ⟨(hn ad ha).1, Nat.lt_of_lt_of_le (hn ad ha).2 hb.size⟩⟩
theorem Rls.empty (w : World) : Rls w.heap.size (w.alloc (.cells #[] 33)) (.slice (some ⟨w.heap.size, 0, none⟩) 0 0) [] :=
  ⟨[], Own.empty _ _ _ (Nat.le_refl _), rfl, fun i l h => by simp at h⟩
theorem Rls.rr {base : Nat} {w : World} {v : Value} {t : List (List Nat)} (h : Rls base w v t) : ∃ a n c, v = .slice a n c ∧ Rr w a n c t := by
  obtain ⟨vs, h1, h2, h3⟩ := h
  rcases h1.form with ⟨rfl, h0⟩ | ⟨g, cap, cur, rfl, _, hh, q3, q4, q5, q6⟩
  · subst h0
    have ht : t = [] := List.eq_nil_of_length_eq_zero h2.symm
    subst ht
    exact ⟨none, 0, 0, rfl, rfl, Nat.le_refl _, by omega, fun i l h => by simp at h⟩
  · refine ⟨_, _, _, rfl, h2.symm, q3, q4, fun i l hl => ?_⟩
    obtain ⟨a, n, c, e, hr, _⟩ := h3 i l hl
    refine ⟨g, 0, a, n, c, rfl, blk_lt hh, ?_, hr⟩
    have hi : i < vs.length := (List.getElem?_eq_some_iff.1 e).1
    refine blk_cell (l := cur.toList) (by simpa using hh) ?_
    rw [Nat.zero_add, show cur.toList[i]? = (cur.toList.take vs.length)[i]? by rw [List.getElem?_take, if_pos hi], q6]
    exact e
/-- One more ring. -/
theorem Rls.push {base : Nat} {w w' : World} {v v' : Value} {t : List (List Nat)} {vs : List Value} {a : Option Addr} {n c : Nat} {l : List Nat} (h1 : Own 33 base w v vs) (h2 : vs.length = t.length)
    (h3 : ∀ (i : Nat) l, t[i]? = some l → ∃ a n c, vs[i]? = some (Value.slice a n c) ∧ Rd .i64 w a n c (nats l) ∧ ∀ ad, a = some ad → v.ownBlock ≠ some ad.block ∧ ad.block < w.heap.size)
    (hr : Rd .i64 w a n c (nats l)) (hn : ∀ ad, a = some ad → v.ownBlock ≠ some ad.block ∧ ad.block < w.heap.size) (ho : Own 33 base w' v' (vs ++ [Value.slice a n c])) (hp : Pushed w w' v v') : Rls base w' v' (t ++ [l]) := by
  refine ⟨_, ho, by simp [h2], fun i l' hl => ?_⟩
  by_cases c1 : i < t.length
  · rw [List.getElem?_append_left c1] at hl
    obtain ⟨a', n', c', e, hr', hn'⟩ := h3 i l' hl
    refine ⟨a', n', c', by rw [List.getElem?_append_left (by omega)]; exact e, hr'.keep hp.size (fun ad ha => hp.other (hn' ad ha).2 (hn' ad ha).1), fun ad ha => ⟨hp.ne (hn' ad ha).2 (hn' ad ha).1, Nat.lt_of_lt_of_le (hn' ad ha).2 hp.size⟩⟩
  · have hi : i = t.length := by
      have := (List.getElem?_eq_some_iff.1 hl).1
      simp at this; omega
    subst hi
    simp at hl
    subst hl
    refine ⟨a, n, c, by rw [← h2]; simp, hr.keep hp.size (fun ad ha => hp.other (hn ad ha).2 (hn ad ha).1), fun ad ha => ⟨hp.ne (hn ad ha).2 (hn ad ha).1, Nat.lt_of_lt_of_le (hn ad ha).2 hp.size⟩⟩

/-- What spec.Made comes to. -/
def SMadePost (w : World) (t : List (List Nat)) (e : Ending) (w' : World) : Prop := ∃ a n c, e = .returned (.slice a n c) ∧ Rr w' a n c t ∧ Below w.heap.size w w'
/-- The loop's relation. -/
structure SMk (w0 w : World) (v : Value) (xs : List Int) (k : Nat) : Prop where
  rls : Rls w0.heap.size w v (mk (xs.take k))
  below : Below w0.heap.size w0 w
theorem mk_length (xs : List Int) : (mk xs).length = xs.length := by
  unfold mk
  have : ∀ M, (mkFrom M xs).length = xs.length := by
    induction xs with
    | nil => intro M; rfl
    | cons x xs ih => intro M; simp [mkFrom, ih]
  exact this 0
theorem tot_len (xs : List Int) : xs.length ≤ tot xs := by
  induction xs with
  | nil => simp [tot]
  | cons x xs ih => have := szN_pos x; simp only [tot, List.map_cons, List.sum_cons, List.length_cons] at ih ⊢; omega

/-- An inner list that grows. -/
structure SIn (w1 w : World) (u : Value) (M j : Nat) : Prop where
  own : Own 3 w1.heap.size w u ((nats (List.range' M j)).map (Value.int .i64))
  below : Below w1.heap.size w1 w
theorem SIn.push {w1 w w' : World} {u u' : Value} {M j : Nat} (h : SIn w1 w u M j) (ho : Own 3 w1.heap.size w' u' ((nats (List.range' M j)).map (Value.int .i64) ++ [Value.int .i64 ((M : Int) + (j : Int))])) (hp : Pushed w w' u u') : SIn w1 w' u' M (j + 1) := by
  refine ⟨?_, h.below.trans (hp.below h.below.size (fun k hk => (h.own.lt hk).1))⟩
  rw [List.range'_concat, nats_append, List.map_append]
  simpa [nats] using ho

set_option maxHeartbeats 1000000 in
theorem smade_calls (w : World) (a : Option Addr) (n c : Nat) (xs : List Int) (h : Rd .u16 w a n c xs) (hf : ∀ x ∈ xs, (Lit.int .u16 x).wf = true) (hn : n ≤ 140737488351232) (ht : tot xs ≤ 65536) :
    Calls Try.prog 9 #[.slice a n c] w (SMadePost w (mk xs)) := by
  have l := h.le
  have h' := Lib.hid h
  have hl := h.len
  have h0 : Hid (SMk w (w.alloc (.cells #[] 33)) (.slice (some ⟨w.heap.size, 0, none⟩) 0 0) xs 0) := ⟨Rls.empty w, (Below.refl _ _).alloc (Nat.le_refl _) _⟩
  clear h
  go_enter Try.func9, Try.ntmps9
  go_wp2
  go_loopw [3, 4, 12] (fun v s i wr => ∃ k : Nat, k ≤ n ∧ i = .int .i64 (k : Int) ∧ s = .int .i64 (tot (xs.take k) : Nat) ∧ Hid (SMk w wr v xs k)) (fun _ _ i _ => n - (intOf i).toNat)
  case atStart => exact ⟨0, Nat.zero_le _, rfl, rfl, h0⟩
  case round =>
    clear h0
    obtain ⟨k, hk, rfl, rfl, hM⟩ := hrel
    by_cases hlt : k < n
    · obtain ⟨b, off, rfl, _, hcell⟩ := (h'.out.below hM.out.below (Nat.le_refl _)).at (by omega)
      have hc := hcell k hlt
      clear hcell
      have hbd := Go.bounds_u16 (hf _ (getD_memR (xs := xs) (k := k) (by omega)))
      have htk := take_getD (xs := xs) (k := k) (by omega)
      have ht1 : tot (xs.take (k + 1)) ≤ 65536 := Nat.le_trans (tot_take_le _ _) ht
      generalize xs.getD k 0 = x at hc hbd htk
      obtain ⟨m, rfl⟩ := Int.eq_ofNat_of_zero_le hbd.1
      rw [htk, tot_snoc] at ht1
      have e1 := tot_snoc (xs.take k) (m : Int)
      have e2 := mk_snoc (xs.take k) (m : Int)
      rw [← htk] at e1 e2
      have hs : szN (m : Int) = max m 1 := rfl
      rw [hs] at e1 e2 ht1
      obtain ⟨g, hg, hg2⟩ : ∃ g : Nat, (if (m : Int) < 1 then 1 else (m : Int)) = (g : Int) ∧ max m 1 = g := ⟨max m 1, by split <;> omega, rfl⟩
      rw [hg2] at e1 e2 ht1
      have hlen : (xs.take k).length ≤ 65536 := by have := tot_len xs; simp; omega
      have hmk := mk_length (xs.take k)
      have e1' := Lib.hid e1
      have e2' := Lib.hid e2
      have hgm := Lib.hid hg
      obtain ⟨vs, o1, o2, o3⟩ := hM.out.rls
      have hvs : vs.length ≤ 65536 := by rw [o2, hmk]; exact hlen
      have hbw := Lib.hid hM.out.below
      have o1' := Lib.hid o1
      have o2' := Lib.hid o2
      have o3' := Lib.hid o3
      obtain ⟨a1, c1, rfl⟩ := own_slice o1
      clear e1 e2 hs hg2 hg htk hmk hlen o1 o2 o3 hM
      generalize tot (xs.take k) = M at ht1 e1' e2' ⊢
      have hi0 : Hid (SIn wr (wr.alloc (.cells #[] 3)) (.slice (some ⟨wr.heap.size, 0, none⟩) 0 0) M 0) := ⟨Own.empty _ _ _ (Nat.le_refl _), (Below.refl _ _).alloc (Nat.le_refl _) _⟩
      by_cases hm1 : (m : Int) < 1
      · have hgp : 1 ≤ g := by have := hgm.out; rw [if_pos (show (m : Int) < 1 by omega)] at this; omega
        go_wp2
        go_loopw [4, 7, 8] (fun s u i wi => ∃ j : Nat, j ≤ g ∧ i = .int .i64 (j : Int) ∧ s = .int .i64 ((M : Int) + (j : Int)) ∧ Hid (SIn wr wi u M j)) (fun _ _ i _ => g - (intOf i).toNat)
        case atStart => exact ⟨0, Nat.zero_le _, rfl, by simp, hi0⟩
        case round =>
          clear hi0 hc
          obtain ⟨j, hj, rfl, rfl, hI⟩ := hrel
          by_cases hjlt : j < g
          · have tj : (j : Int) < (if (m : Int) < 1 then 1 else (m : Int)) := by rw [hgm.out]; omega
            rw [if_pos (show (m : Int) < 1 by omega)] at tj
            have hown := hI.out.own
            have hlen : ((nats (List.range' M j)).map (Value.int .i64)).length = j := by simp [nats]
            have hsz := hI.out.below.size
            go_wp2_with (first
              | (at_builtin; refine wpl_push rfl (.tmp 24) (.tmp 26) 33 3 rfl Try.underlying33 infoIntR rfl _ _ _ (.int .i64 ((M : Int) + (j : Int))) rfl rfl rfl hown (by rw [hlen]; unfold maxLen; omega) (by rw [hlen]; omega) hsz ?_))
            intro v' w5 ho6 hp5
            have hI5 := Lib.hid (hI.out.push ho6 hp5)
            clear ho6 hp5 hown hlen hsz hI
            go_wp2
            go_roundw
            case rel => exact ⟨j + 1, hjlt, by go_num, by congr 1, hI5⟩
            case measure => simp [intOf]; omega
          · obtain rfl : j = g := by omega
            have tj : ¬ ((j : Int) < (if (m : Int) < 1 then 1 else (m : Int))) := by rw [hgm.out]; omega
            rw [if_pos (show (m : Int) < 1 by omega)] at tj
            have hlw := hI.out.below
            obtain ⟨a4, n4, c4, hu, hrd⟩ := hI.out.own.rd
            have hblk : ∀ ad, a4 = some ad → (Value.slice a1 vs.length c1).ownBlock ≠ some ad.block ∧ ad.block < wr.heap.size := by
              intro ad e
              have hq := hI.out.own.lt (k := ad.block) (by rw [hu, e]; rfl)
              exact ⟨fun q => by have := (o1'.out.lt q).2; omega, hq.2⟩
            have o4 := o1'.out.below hlw (Nat.le_refl _)
            have hs4 := Nat.le_trans hbw.out.size hlw.size
            have o5 : Hid (∀ (i : Nat) l, (mk (List.take k xs))[i]? = some l → ∃ a n c, vs[i]? = some (Value.slice a n c) ∧ Rd .i64 wr a n c (nats l) ∧ ∀ ad, a = some ad → (Value.slice a1 vs.length c1).ownBlock ≠ some ad.block ∧ ad.block < wr.heap.size) := by
              intro i l hl
              obtain ⟨a', n', c', e', r', q'⟩ := o3'.out i l hl
              exact ⟨a', n', c', e', r'.below hlw (Nat.le_refl _), fun ad ha => ⟨(q' ad ha).1, Nat.lt_of_lt_of_le (q' ad ha).2 hlw.size⟩⟩
            have hb4 := Lib.hid (hbw.out.trans (hlw.mono hbw.out.size))
            have hrd' := Lib.hid hrd
            have hblk' := Lib.hid hblk
            clear hI hlw hrd hblk
            subst hu
            go_wp2_with (first
              | (at_builtin; refine wpl_push rfl (.tmp 30) (.tmp 32) 29 33 rfl Try.underlying29 infoInts rfl _ _ _ (.slice a4 n4 c4) rfl rfl rfl o4 (by unfold maxLen; omega) (by omega) hs4 ?_))
            intro v' w5 ho6 hp5
            have hR : Hid (SMk w w5 v' xs (k + 1)) := ⟨by rw [e2'.out]; exact Rls.push o4 o2'.out o5.out hrd'.out hblk'.out ho6 hp5, hb4.out.trans (hp5.below hb4.out.size (fun q hq => (o4.lt hq).1))⟩
            clear ho6 hp5 o4 hs4
            go_wp2
            go_roundw
            case rel => exact ⟨k + 1, hlt, by go_num, by rw [e1'.out]; congr 1, hR⟩
            case measure => simp [intOf]; omega
      · have hgp : 1 ≤ g := by have := hgm.out; rw [if_neg (show ¬ (m : Int) < 1 by omega)] at this; omega
        go_wp2
        go_loopw [4, 7, 8] (fun s u i wi => ∃ j : Nat, j ≤ g ∧ i = .int .i64 (j : Int) ∧ s = .int .i64 ((M : Int) + (j : Int)) ∧ Hid (SIn wr wi u M j)) (fun _ _ i _ => g - (intOf i).toNat)
        case atStart => exact ⟨0, Nat.zero_le _, rfl, by simp, hi0⟩
        case round =>
          clear hi0 hc
          obtain ⟨j, hj, rfl, rfl, hI⟩ := hrel
          by_cases hjlt : j < g
          · have tj : (j : Int) < (if (m : Int) < 1 then 1 else (m : Int)) := by rw [hgm.out]; omega
            rw [if_neg (show ¬ (m : Int) < 1 by omega)] at tj
            have hown := hI.out.own
            have hlen : ((nats (List.range' M j)).map (Value.int .i64)).length = j := by simp [nats]
            have hsz := hI.out.below.size
            go_wp2_with (first
              | (at_builtin; refine wpl_push rfl (.tmp 24) (.tmp 26) 33 3 rfl Try.underlying33 infoIntR rfl _ _ _ (.int .i64 ((M : Int) + (j : Int))) rfl rfl rfl hown (by rw [hlen]; unfold maxLen; omega) (by rw [hlen]; omega) hsz ?_))
            intro v' w5 ho6 hp5
            have hI5 := Lib.hid (hI.out.push ho6 hp5)
            clear ho6 hp5 hown hlen hsz hI
            go_wp2
            go_roundw
            case rel => exact ⟨j + 1, hjlt, by go_num, by congr 1, hI5⟩
            case measure => simp [intOf]; omega
          · obtain rfl : j = g := by omega
            have tj : ¬ ((j : Int) < (if (m : Int) < 1 then 1 else (m : Int))) := by rw [hgm.out]; omega
            rw [if_neg (show ¬ (m : Int) < 1 by omega)] at tj
            have hlw := hI.out.below
            obtain ⟨a4, n4, c4, hu, hrd⟩ := hI.out.own.rd
            have hblk : ∀ ad, a4 = some ad → (Value.slice a1 vs.length c1).ownBlock ≠ some ad.block ∧ ad.block < wr.heap.size := by
              intro ad e
              have hq := hI.out.own.lt (k := ad.block) (by rw [hu, e]; rfl)
              exact ⟨fun q => by have := (o1'.out.lt q).2; omega, hq.2⟩
            have o4 := o1'.out.below hlw (Nat.le_refl _)
            have hs4 := Nat.le_trans hbw.out.size hlw.size
            have o5 : Hid (∀ (i : Nat) l, (mk (List.take k xs))[i]? = some l → ∃ a n c, vs[i]? = some (Value.slice a n c) ∧ Rd .i64 wr a n c (nats l) ∧ ∀ ad, a = some ad → (Value.slice a1 vs.length c1).ownBlock ≠ some ad.block ∧ ad.block < wr.heap.size) := by
              intro i l hl
              obtain ⟨a', n', c', e', r', q'⟩ := o3'.out i l hl
              exact ⟨a', n', c', e', r'.below hlw (Nat.le_refl _), fun ad ha => ⟨(q' ad ha).1, Nat.lt_of_lt_of_le (q' ad ha).2 hlw.size⟩⟩
            have hb4 := Lib.hid (hbw.out.trans (hlw.mono hbw.out.size))
            have hrd' := Lib.hid hrd
            have hblk' := Lib.hid hblk
            clear hI hlw hrd hblk
            subst hu
            go_wp2_with (first
              | (at_builtin; refine wpl_push rfl (.tmp 30) (.tmp 32) 29 33 rfl Try.underlying29 infoInts rfl _ _ _ (.slice a4 n4 c4) rfl rfl rfl o4 (by unfold maxLen; omega) (by omega) hs4 ?_))
            intro v' w5 ho6 hp5
            have hR : Hid (SMk w w5 v' xs (k + 1)) := ⟨by rw [e2'.out]; exact Rls.push o4 o2'.out o5.out hrd'.out hblk'.out ho6 hp5, hb4.out.trans (hp5.below hb4.out.size (fun q hq => (o4.lt hq).1))⟩
            clear ho6 hp5 o4 hs4
            go_wp2
            go_roundw
            case rel => exact ⟨k + 1, hlt, by go_num, by rw [e1'.out]; congr 1, hR⟩
            case measure => simp [intOf]; omega
    · obtain rfl : k = n := by omega
      have q : ¬ ((k : Int) < (k : Int)) := by omega
      go_wp2
      go_ret
      have e : xs.take k = xs := List.take_of_length_le (by omega)
      obtain ⟨m1, m2⟩ := hM.out
      rw [e] at m1
      obtain ⟨a2, n2, c2, rfl, hr⟩ := m1.rr
      exact ⟨a2, n2, c2, rfl, hr, m2⟩
end Go.Proofs.Ytmkkkhlalacaiaa

/- (spec.Rings).Link. Written by genslink.py. -/
import Derived.Test.YtmkkkhlalacaiaaOthers
import Derived.Test.YtmkkkhlalacaiaaMv
import Derived.Test.YtmkkkhlalacaiaaFind
namespace Go.Proofs.Ytmkkkhlalacaiaa
open Go.RowKit
open Go.Proofs.Ytmkkkhlalacaiaa.Rm
set_option linter.unusedVariables false

theorem Rm.Rep.len_mem {N : Nat} {nx : Nat → Nat} {t : List (List Nat)} (hR : Rep N nx t) {l : List Nat} (hl : l ∈ t) : l.length ≤ N := by
  obtain ⟨x, hx⟩ := hR.ring l hl
  exact nodup_len N l hx.nodup (fun i hi => hR.lt l hl i hi)
theorem Rm.Rep.ne_mem {N : Nat} {nx : Nat → Nat} {t : List (List Nat)} (hR : Rep N nx t) {l : List Nat} (hl : l ∈ t) : l ≠ [] := by
  obtain ⟨x, hx⟩ := hR.ring l hl
  exact hx.ne
theorem mem_nats {l : List Nat} {j : Nat} : (j : Int) ∈ nats l ↔ j ∈ l := by
  unfold nats
  rw [List.mem_map]
  constructor
  · rintro ⟨k, hk, e⟩; rw [← Int.ofNat_inj.1 e]; exact hk
  · intro h; exact ⟨j, h, rfl⟩
theorem idxOf_nats (l : List Nat) (j : Nat) : (nats l).idxOf (j : Int) = l.idxOf j := by
  induction l with
  | nil => rfl
  | cons a l ih =>
    show ((a : Int) :: nats l).idxOf (j : Int) = (a :: l).idxOf j
    rw [List.idxOf_cons, List.idxOf_cons, ih]
    by_cases h : a = j
    · subst h; simp
    · have h1 : ((a : Int) == (j : Int)) = false := by simp; omega
      have h2 : (a == j) = false := by simpa using h
      rw [h1, h2]
theorem placeI_in {l : List Nat} {j : Nat} (h : j ∈ l) : placeI (nats l) (j : Int) = (l.idxOf j : Nat) := by
  unfold placeI; rw [if_pos (mem_nats.2 h), idxOf_nats]
theorem placeI_out {l : List Nat} {j : Nat} (h : j ∉ l) : placeI (nats l) (j : Int) = -1 := by
  unfold placeI; rw [if_neg (fun q => h (mem_nats.1 q))]

/-- What (spec.Rings).Link and .Unlink come to. -/
def SLinkPost (w : World) (t : List (List Nat)) (m : Int) (e : Ending) (w' : World) : Prop := ∃ a n c, e = .returned (.tuple #[.slice a n c, .int .i64 m]) ∧ Rr w' a n c t ∧ Below w.heap.size w w'

set_option maxHeartbeats 1000000 in
theorem slink_calls (w : World) (a : Option Addr) (n c : Nat) (t : List (List Nat)) (N : Nat) (nx pv : Nat → Nat) (i j : Nat) (h : Rr w a n c t) (hR : Rep N nx t) (hI : Inv N nx pv) (hN : N ≤ 65536) (hn : n ≤ 70000) (hi : i < N) (hj : j < N) :
    Calls Try.prog 26 #[.slice a n c, .int .i64 (i : Int), .int .i64 (j : Int)] w (SLinkPost w (link t i j) (mv t i 1 : Nat)) := by
  have hR' := Lib.hid hR
  have h' := Lib.hid h
  have htl := Lib.hid h.1
  have r0 := hR.from_ring hi
  have hlp := r0.pos
  have hll := hR.len_le hi
  clear hR h r0
  go_enter Try.func26, Try.ntmps26
  go_wp2_with fail
  refine (from_calls w a n c t i h'.out (by omega) (fun l hl => by have := hR'.out.len_mem hl; omega) (by omega)).mono ?_
  rintro e w1 ⟨a1, n1, c1, rfl, r1, hb1⟩
  have r1' := Lib.hid r1
  have hb1' := Lib.hid hb1
  clear r1 hb1
  go_wp2_with fail
  refine (smove_calls w1 a n c t i 1 (h'.out.below hb1'.out (Nat.le_refl _)) (by omega) (fun l hl => by have := hR'.out.len_mem hl; omega) (by omega) hlp (by omega) (by omega)).mono ?_
  rintro e w2 ⟨rfl, hb2⟩
  have r2' := Lib.hid (r1'.out.below hb2 (Nat.le_refl _))
  have hb2' := Lib.hid (hb1'.out.trans (hb2.mono hb1'.out.size))
  clear r1' hb2 hb1'
  go_wp2_with fail
  refine (others_calls w2 a n c t i j (h'.out.below hb2'.out (Nat.le_refl _)) (by omega) (fun l hl => by have := hR'.out.len_mem hl; omega) (fun l hl => hR'.out.ne_mem hl) (by omega) (by omega)).mono ?_
  rintro e w3 ⟨v, rfl, hO, hb3⟩
  have r3' := Lib.hid (r2'.out.below hb3 (Nat.le_refl _))
  have hb3' := Lib.hid (hb2'.out.trans (hb3.mono hb2'.out.size))
  have hlen := r3'.out.len
  rw [nats_length] at hlen
  have hle := r3'.out.le
  obtain ⟨b1, of1, rfl, hlaB, _⟩ := r2'.out.at (by omega)
  have hsz23 := hb3.size
  have hsz2 := hb2'.out.size
  have hsz3 := hb3'.out.size
  obtain ⟨vs, o1, o2, o3⟩ := hO
  obtain ⟨av, cv, rfl⟩ := own_len o1
  have hvs : vs.length ≤ 70000 := by rw [o2]; have := others_length t i j; rw [htl.out] at this; omega
  have o1' := Lib.hid o1
  have o2' := Lib.hid o2
  have o3' := Lib.hid o3
  have hvB : Hid (∀ k, (Value.slice av vs.length cv).ownBlock = some k → w2.heap.size ≤ k ∧ k < w3.heap.size) := fun k hk => o1'.out.lt hk
  clear o1 o2 o3 hb3 hb2' r2'
  have hpl := place_calls (some ⟨b1, of1, none⟩) n1 c1 _ (j : Int) w3 r3'.out
  have h3' := Lib.hid (h'.out.below hb3'.out (Nat.le_refl _))
  have m1 : n1 ≤ 65536 := by omega
  have m2 : 1 ≤ n1 := by omega
  have hlen' := Lib.hid hlen
  clear h' hlp hll hlen
  by_cases hmem : j ∈ from' t i
  case neg =>
    rw [placeI_out hmem] at hpl
    have hlk : Hid (link t i j = others t i j ++ [i :: from' t j ++ (from' t i).tail]) := by show _ = _; unfold link; rw [if_neg hmem]
    clear hmem
    go_wp2_with fail
    refine hpl.mono ?_
    rintro e w' ⟨rfl, rfl⟩
    clear hpl
    have hba : Below w3.heap.size w3 (w3.alloc (.cells #[.int .i64 (i : Int)] 3)) := (Below.refl _ _).alloc (Nat.le_refl _) _
    have hba' := Lib.hid hba
    have hfj := from_calls (w3.alloc (.cells #[.int .i64 (i : Int)] 3)) a n c t j (h3'.out.below hba (Nat.le_refl _)) (by omega) (fun l hl => by have := hR'.out.len_mem hl; omega) (by omega)
    have hol := Lib.hid (Own.lit 3 w3.heap.size w3 [.int .i64 (i : Int)] (Nat.le_refl _) (by unfold maxLen; simp))
    clear hba
    go_wp2_with fail
    refine hfj.mono ?_
    rintro e w4 ⟨a4, n4, c4, rfl, r4, hb4⟩
    have B4 := Lib.hid (hba'.out.trans (hb4.mono hba'.out.size))
    have o4 : Own 3 w3.heap.size w4 (.slice (some ⟨w3.heap.size, 0, none⟩) 1 1) [.int .i64 (i : Int)] := hol.out.below hb4 (Nat.le_refl _)
    have hm4 : ((nats (from' t j)).map (Value.int .i64)).length = n4 := by simpa using r4.len
    have hn4 : n4 ≤ 65536 := by have := r4.len; rw [nats_length] at this; have := hR'.out.len_le hj; omega
    have hs4 := B4.out.size
    clear hfj hba' hol hb4
    go_wp2_with (first
      | (at_builtin; refine wpl_join rfl (.tmp 29) (.tmp 32) 33 3 rfl Try.underlying33 infoIntR rfl w3.heap.size _ _ ((nats (from' t j)).map (Value.int .i64)) (ints_one .i64 _) rfl _ _ _ rfl hm4 r4.2.2.2.1 r4.cells o4 (by simp [maxLen]; omega) (by simp; omega) hs4 ?_))
    intro v5 w5 o5 p5
    have B5 := Lib.hid (B4.out.trans (p5.below B4.out.size (fun k hk => (o4.lt hk).1)))
    have l5 : (Value.int .i64 (i : Int) :: (nats (from' t j)).map (Value.int .i64)).length = 1 + n4 := by simp at hm4 ⊢; omega
    clear p5 o4 r4 hm4 hs4 B4
    have r5 : Rd .i64 w5 (cutA (some ⟨b1, of1, none⟩) c1 1) (n1 - 1) (c1 - 1) ((nats (from' t i)).drop 1) := by
      have := (r3'.out.below B5.out (Nat.le_refl _)).cut (lo := 1) (hi := n1) (by omega) (Nat.le_refl _)
      rwa [List.take_of_length_le (by rw [nats_length, hlen'.out]; exact Nat.le_refl _)] at this
    have hm5 : (((nats (from' t i)).drop 1).map (Value.int .i64)).length = n1 - 1 := by rw [List.length_map]; exact r5.len
    have hs5 := B5.out.size
    have hcut := fun u => run_cut_low (P := Try.prog) u 33 3 (some ⟨b1, of1, none⟩) n1 c1 1 .i64 Try.underlying33 sizeIntR 1 rfl (by omega)
    go_wp2_with (first
      | (at_builtin; refine wpl_join rfl (.tmp 35) (.tmp 37) 33 3 rfl Try.underlying33 infoIntR rfl w3.heap.size _ _ (((nats (from' t i)).drop 1).map (Value.int .i64)) (ints_one .i64 _) rfl _ _ _ rfl hm5 r5.2.2.2.1 r5.cells o5 (by rw [l5]; unfold maxLen; omega) (by rw [l5]; omega) hs5 ?_))
    intro v6 w6 o6 p6
    have B6 := Lib.hid (B5.out.trans (p6.below B5.out.size (fun k hk => (o5.lt hk).1)))
    have o6' : Own 3 w3.heap.size w6 v6 ((nats (i :: from' t j ++ (from' t i).tail)).map (Value.int .i64)) := by
      have e : (nats (i :: from' t j ++ (from' t i).tail)).map (Value.int .i64) = [Value.int .i64 (i : Int)] ++ (nats (from' t j)).map (Value.int .i64) ++ ((nats (from' t i)).drop 1).map (Value.int .i64) := by simp [nats]
      rw [e]; simpa using o6
    obtain ⟨a6, n6, c6, rfl, r6⟩ := o6'.rd
    have hblk : Hid (∀ ad, a6 = some ad → (Value.slice av vs.length cv).ownBlock ≠ some ad.block ∧ ad.block < w6.heap.size) := by
      intro ad e
      have hq := o6'.lt (k := ad.block) (by rw [e]; rfl)
      exact ⟨fun q => by have := (hvB.out _ q).2; omega, hq.2⟩
    have r6' := Lib.hid r6
    clear o6 o6' p6 o5 r5 hm5 hs5 hcut l5 r6 B5
    have o7 := o1'.out.below B6.out (Nat.le_refl _)
    have o8 := Lib.hid (fun (q : Nat) l (hl : (others t i j)[q]? = some l) => show ∃ a n c, vs[q]? = some (Value.slice a n c) ∧ Rd .i64 w6 a n c (nats l) ∧ ∀ ad, a = some ad → (Value.slice av vs.length cv).ownBlock ≠ some ad.block ∧ ad.block < w6.heap.size from by
      obtain ⟨a', n', c', e', r', q'⟩ := o3'.out q l hl
      exact ⟨a', n', c', e', r'.below B6.out (Nat.le_refl _), fun ad ha => ⟨(q' ad ha).1, Nat.lt_of_lt_of_le (q' ad ha).2 B6.out.size⟩⟩)
    have hs6 : w2.heap.size ≤ w6.heap.size := Nat.le_trans hsz23 B6.out.size
    go_wp2_with (first
      | (at_builtin; refine wpl_push rfl (.tmp 34) (.tmp 39) 29 33 rfl Try.underlying29 infoInts rfl w2.heap.size _ _ (.slice a6 n6 c6) rfl rfl rfl o7 (by unfold maxLen; omega) (by omega) hs6 ?_))
    intro v7 w7 o9 p9
    have hfin := Lib.hid (Rls.push o7 o2'.out o8.out r6'.out hblk.out o9 p9)
    have B7 := Lib.hid (hb3'.out.trans ((B6.out.mono hsz3).trans (p9.below (Nat.le_trans hsz3 B6.out.size) (fun k hk => by have := (hvB.out k hk).1; omega))))
    clear o9 p9 o7
    go_wp2
    go_ret2
    obtain ⟨a9, n9, c9, rfl, r9⟩ := hfin.out.rr
    exact ⟨a9, n9, c9, rfl, by rw [hlk.out]; exact r9, B7.out⟩
  case pos =>
    rw [placeI_in hmem] at hpl
    have hix : (from' t i).idxOf j < n1 := by rw [← hlen'.out]; exact List.idxOf_lt_length_iff.2 hmem
    go_wp2_with fail
    refine hpl.mono ?_
    rintro e w' ⟨rfl, rfl⟩
    clear hpl
    by_cases hij : i = j
    · have tij : ((i : Int) == (j : Int)) = true := by simp [hij]
      have hlk : Hid (link t i j = others t i j ++ [i :: (from' t i).drop n1] ++ (if ((from' t i).take n1).drop 1 = [] then [] else [((from' t i).take n1).drop 1])) := by
        show _ = _; unfold link; rw [if_pos hmem]; simp only [if_pos hij]; rw [hlen'.out]
      have hij' := Lib.hid hij
      clear hij hmem hix
      have hba : Below w3.heap.size w3 (w3.alloc (.cells #[.int .i64 (i : Int)] 3)) := (Below.refl _ _).alloc (Nat.le_refl _) _
      have o4 : Own 3 w3.heap.size (w3.alloc (.cells #[.int .i64 (i : Int)] 3)) (.slice (some ⟨w3.heap.size, 0, none⟩) 1 1) [.int .i64 (i : Int)] := Own.lit 3 w3.heap.size w3 [.int .i64 (i : Int)] (Nat.le_refl _) (by unfold maxLen; simp)
      have r5 : Rd .i64 (w3.alloc (.cells #[.int .i64 (i : Int)] 3)) (cutA (some ⟨b1, of1, none⟩) c1 n1) 0 (c1 - n1) ((nats (from' t i)).drop n1) := by
        have := (r3'.out.below hba (Nat.le_refl _)).cut (lo := n1) (hi := n1) (by omega) (Nat.le_refl _)
        rwa [List.take_of_length_le (by rw [nats_length, hlen'.out]; exact Nat.le_refl _), Nat.sub_self] at this
      have hm5 : (((nats (from' t i)).drop n1).map (Value.int .i64)).length = 0 := by rw [List.length_map]; exact r5.len
      have hs5 := hba.size
      have hcut := fun u => run_cut_low (P := Try.prog) u 33 3 (some ⟨b1, of1, none⟩) n1 c1 n1 .i64 Try.underlying33 sizeIntR (n1 : Int) rfl (by omega)
      simp only [Nat.sub_self] at hcut
      have hba' := Lib.hid hba
      clear hba
      go_wp2_with (first
        | (at_builtin; refine wpl_join rfl (.tmp 49) (.tmp 52) 33 3 rfl Try.underlying33 infoIntR rfl w3.heap.size _ _ (((nats (from' t i)).drop n1).map (Value.int .i64)) (ints_one .i64 _) rfl _ _ _ rfl hm5 r5.2.2.2.1 r5.cells o4 (by simp only [List.length_cons, List.length_nil, maxLen]; omega) (by simp only [List.length_cons, List.length_nil]; omega) hs5 ?_))
      intro v6 w6 o6 p6
      have B6 := Lib.hid (hba'.out.trans (p6.below hba'.out.size (fun k hk => (o4.lt hk).1)))
      have o6' : Own 3 w3.heap.size w6 v6 ((nats (i :: (from' t i).drop n1)).map (Value.int .i64)) := by
        have e : (nats (i :: (from' t i).drop n1)).map (Value.int .i64) = [Value.int .i64 (i : Int)] ++ ((nats (from' t i)).drop n1).map (Value.int .i64) := by simp [nats]
        rw [e]; simpa using o6
      obtain ⟨a6, n6, c6, rfl, r6⟩ := o6'.rd
      have hblk : Hid (∀ ad, a6 = some ad → (Value.slice av vs.length cv).ownBlock ≠ some ad.block ∧ ad.block < w6.heap.size) := by
        intro ad e
        have hq := o6'.lt (k := ad.block) (by rw [e]; rfl)
        exact ⟨fun q => by have := (hvB.out _ q).2; omega, hq.2⟩
      have r6' := Lib.hid r6
      clear o6 o6' p6 o4 r5 hm5 hs5 hcut r6
      have o7 := o1'.out.below B6.out (Nat.le_refl _)
      have o8 := Lib.hid (fun (q : Nat) l (hl : (others t i j)[q]? = some l) => show ∃ a n c, vs[q]? = some (Value.slice a n c) ∧ Rd .i64 w6 a n c (nats l) ∧ ∀ ad, a = some ad → (Value.slice av vs.length cv).ownBlock ≠ some ad.block ∧ ad.block < w6.heap.size from by
        obtain ⟨a', n', c', e', r', q'⟩ := o3'.out q l hl
        exact ⟨a', n', c', e', r'.below B6.out (Nat.le_refl _), fun ad ha => ⟨(q' ad ha).1, Nat.lt_of_lt_of_le (q' ad ha).2 B6.out.size⟩⟩)
      have hs6 : w2.heap.size ≤ w6.heap.size := Nat.le_trans hsz23 B6.out.size
      go_wp2_with (first
        | (at_builtin; refine wpl_push rfl (.tmp 47) (.tmp 54) 29 33 rfl Try.underlying29 infoInts rfl w2.heap.size _ _ (.slice a6 n6 c6) rfl rfl rfl o7 (by unfold maxLen; omega) (by omega) hs6 ?_))
      intro v7 w7 o9 p9
      have hfin := Lib.hid (Rls.push o7 o2'.out o8.out r6'.out hblk.out o9 p9)
      have B7 := Lib.hid ((B6.out.mono hsz23).trans (p9.below hs6 (fun k hk => (hvB.out k hk).1)))
      have hlv := p9.ne (k := b1) (Nat.lt_of_lt_of_le hlaB hs6) (fun q => by have := (hvB.out _ q).1; omega)
      have l7 := own_len o9
      simp only [List.length_append, List.length_cons, List.length_nil, Nat.zero_add] at l7
      obtain ⟨a7, c7, rfl⟩ := l7
      clear o9 p9 o7 o8 hs6
      have hcut2 := fun u => run_cut_both (P := Try.prog) u 33 3 (some ⟨b1, of1, none⟩) n1 c1 1 n1 .i64 .i64 Try.underlying33 sizeIntR 1 (n1 : Int) rfl rfl (by omega) (by omega)
      by_cases hk1 : n1 = 1
      · have hd : Hid (((from' t i).take n1).drop 1 = []) := by show _ = _; rw [hk1]; simp
        have tk : decide (0 < n1 - 1) = false := by simp; omega
        have tk2 : decide ((0 : Int) < ((n1 - 1 : Nat) : Int)) = false := by simp; omega
        have hk1' := Lib.hid hk1
        clear hk1
        go_wp2
        go_ret2
        obtain ⟨a9, n9, c9, hv9, r9⟩ := hfin.out.rr
        cases hv9
        exact ⟨_, _, _, rfl, by rw [hlk.out, hd.out, if_pos rfl, List.append_nil]; exact r9, hb3'.out.trans (B7.out.mono (by omega))⟩
      · have hd : Hid (((from' t i).take n1).drop 1 ≠ []) := by
          show _ ≠ _
          intro q
          have := congrArg List.length q
          simp at this
          have := hlen'.out
          omega
        have tk : decide (0 < n1 - 1) = true := by simp; omega
        have tk2 : decide ((0 : Int) < ((n1 - 1 : Nat) : Int)) = true := by simp; omega
        obtain ⟨vs2, q1, q2, q3⟩ := hfin.out
        have hl2 : vs2.length = vs.length + 1 := by rw [q2]; simp; have := o2'.out; omega
        have r8 : Hid (Rd .i64 w7 (some ⟨b1, of1 + 1, none⟩) (n1 - 1) (c1 - 1) (nats (((from' t i).take n1).drop 1))) := by
          have := ((r3'.out.keep B7.out.size (fun ad e => by cases e; exact B7.out.block _ hlaB)).cut (lo := 1) (hi := n1) (by omega) (by omega))
          rw [cutA_lt (by omega)] at this
          rw [nats_drop, nats_take]; exact this
        have hcA : cutA (some ⟨b1, of1, none⟩) c1 1 = some ⟨b1, of1 + 1, none⟩ := cutA_lt (by omega)
        rw [hcA] at hcut2
        have hs7 : w2.heap.size ≤ w7.heap.size := Nat.le_trans hsz23 B7.out.size
        have hblk2 : Hid (∀ ad, some (⟨b1, of1 + 1, none⟩ : Addr) = some ad → (Value.slice a7 (vs.length + 1) c7).ownBlock ≠ some ad.block ∧ ad.block < w7.heap.size) := by
          intro ad e
          cases e
          exact ⟨hlv, Nat.lt_of_lt_of_le hlaB hs7⟩
        have q2' := Lib.hid q2
        have q3' := Lib.hid q3
        clear hcA q2 q3 hlv hk1 hfin
        go_wp2_with (first
          | (at_builtin; refine wpl_push rfl (.tmp 61) (.tmp 65) 29 33 rfl Try.underlying29 infoInts rfl w2.heap.size _ _ (.slice (some ⟨b1, of1 + 1, none⟩) (n1 - 1) (c1 - 1)) rfl rfl rfl q1 (by rw [hl2]; unfold maxLen; omega) (by rw [hl2]; omega) hs7 ?_))
        intro v8 w8 o10 p10
        have hfin2 := Lib.hid (Rls.push q1 q2'.out q3'.out r8.out hblk2.out o10 p10)
        have B8 := Lib.hid (hb3'.out.trans ((B7.out.mono (by omega)).trans (p10.below (by omega) (fun k hk => by have := (q1.lt hk).1; omega))))
        clear o10 p10 q1 hl2
        go_wp2
        go_ret2
        obtain ⟨a9, n9, c9, rfl, r9⟩ := hfin2.out.rr
        exact ⟨a9, n9, c9, rfl, by rw [hlk.out, if_neg hd.out]; exact r9, B8.out⟩
    · have tij : ((i : Int) == (j : Int)) = false := by simp; omega
      obtain ⟨k, hk⟩ : ∃ k, k = (from' t i).idxOf j := ⟨_, rfl⟩
      have hlk : Hid (link t i j = others t i j ++ [i :: (from' t i).drop k] ++ (if ((from' t i).take k).drop 1 = [] then [] else [((from' t i).take k).drop 1])) := by
        show _ = _; unfold link; rw [if_pos hmem]; simp only [if_neg hij]; rw [← hk]
      have hkn : 1 ≤ k ∧ k ≤ n1 := by
        obtain ⟨m0, em, p, _⟩ := (hR'.out.from_ring hi).cons
        have : (from' t i).idxOf j ≠ 0 := by rw [em, List.idxOf_cons, show (i == j) = false from beq_eq_false_iff_ne.2 hij]; simp
        omega
      rw [← hk] at hix ⊢
      have hk' := Lib.hid hk
      clear hij hmem hk
      have hba : Below w3.heap.size w3 (w3.alloc (.cells #[.int .i64 (i : Int)] 3)) := (Below.refl _ _).alloc (Nat.le_refl _) _
      have o4 : Own 3 w3.heap.size (w3.alloc (.cells #[.int .i64 (i : Int)] 3)) (.slice (some ⟨w3.heap.size, 0, none⟩) 1 1) [.int .i64 (i : Int)] := Own.lit 3 w3.heap.size w3 [.int .i64 (i : Int)] (Nat.le_refl _) (by unfold maxLen; simp)
      have r5 : Rd .i64 (w3.alloc (.cells #[.int .i64 (i : Int)] 3)) (cutA (some ⟨b1, of1, none⟩) c1 k) (n1 - k) (c1 - k) ((nats (from' t i)).drop k) := by
        have := (r3'.out.below hba (Nat.le_refl _)).cut (lo := k) (hi := n1) (by omega) (Nat.le_refl _)
        rwa [List.take_of_length_le (by rw [nats_length, hlen'.out]; exact Nat.le_refl _)] at this
      have hm5 : (((nats (from' t i)).drop k).map (Value.int .i64)).length = (n1 - k) := by rw [List.length_map]; exact r5.len
      have hs5 := hba.size
      have hcut := fun u => run_cut_low (P := Try.prog) u 33 3 (some ⟨b1, of1, none⟩) n1 c1 k .i64 Try.underlying33 sizeIntR (k : Int) rfl (by omega)
      have hba' := Lib.hid hba
      clear hba
      go_wp2_with (first
        | (at_builtin; refine wpl_join rfl (.tmp 49) (.tmp 52) 33 3 rfl Try.underlying33 infoIntR rfl w3.heap.size _ _ (((nats (from' t i)).drop k).map (Value.int .i64)) (ints_one .i64 _) rfl _ _ _ rfl hm5 r5.2.2.2.1 r5.cells o4 (by simp only [List.length_cons, List.length_nil, maxLen]; omega) (by simp only [List.length_cons, List.length_nil]; omega) hs5 ?_))
      intro v6 w6 o6 p6
      have B6 := Lib.hid (hba'.out.trans (p6.below hba'.out.size (fun k hk => (o4.lt hk).1)))
      have o6' : Own 3 w3.heap.size w6 v6 ((nats (i :: (from' t i).drop k)).map (Value.int .i64)) := by
        have e : (nats (i :: (from' t i).drop k)).map (Value.int .i64) = [Value.int .i64 (i : Int)] ++ ((nats (from' t i)).drop k).map (Value.int .i64) := by simp [nats]
        rw [e]; simpa using o6
      obtain ⟨a6, n6, c6, rfl, r6⟩ := o6'.rd
      have hblk : Hid (∀ ad, a6 = some ad → (Value.slice av vs.length cv).ownBlock ≠ some ad.block ∧ ad.block < w6.heap.size) := by
        intro ad e
        have hq := o6'.lt (k := ad.block) (by rw [e]; rfl)
        exact ⟨fun q => by have := (hvB.out _ q).2; omega, hq.2⟩
      have r6' := Lib.hid r6
      clear o6 o6' p6 o4 r5 hm5 hs5 hcut r6
      have o7 := o1'.out.below B6.out (Nat.le_refl _)
      have o8 := Lib.hid (fun (q : Nat) l (hl : (others t i j)[q]? = some l) => show ∃ a n c, vs[q]? = some (Value.slice a n c) ∧ Rd .i64 w6 a n c (nats l) ∧ ∀ ad, a = some ad → (Value.slice av vs.length cv).ownBlock ≠ some ad.block ∧ ad.block < w6.heap.size from by
        obtain ⟨a', n', c', e', r', q'⟩ := o3'.out q l hl
        exact ⟨a', n', c', e', r'.below B6.out (Nat.le_refl _), fun ad ha => ⟨(q' ad ha).1, Nat.lt_of_lt_of_le (q' ad ha).2 B6.out.size⟩⟩)
      have hs6 : w2.heap.size ≤ w6.heap.size := Nat.le_trans hsz23 B6.out.size
      go_wp2_with (first
        | (at_builtin; refine wpl_push rfl (.tmp 47) (.tmp 54) 29 33 rfl Try.underlying29 infoInts rfl w2.heap.size _ _ (.slice a6 n6 c6) rfl rfl rfl o7 (by unfold maxLen; omega) (by omega) hs6 ?_))
      intro v7 w7 o9 p9
      have hfin := Lib.hid (Rls.push o7 o2'.out o8.out r6'.out hblk.out o9 p9)
      have B7 := Lib.hid ((B6.out.mono hsz23).trans (p9.below hs6 (fun k hk => (hvB.out k hk).1)))
      have hlv := p9.ne (k := b1) (Nat.lt_of_lt_of_le hlaB hs6) (fun q => by have := (hvB.out _ q).1; omega)
      have l7 := own_len o9
      simp only [List.length_append, List.length_cons, List.length_nil, Nat.zero_add] at l7
      obtain ⟨a7, c7, rfl⟩ := l7
      clear o9 p9 o7 o8 hs6
      have hcut2 := fun u => run_cut_both (P := Try.prog) u 33 3 (some ⟨b1, of1, none⟩) n1 c1 1 k .i64 .i64 Try.underlying33 sizeIntR 1 (k : Int) rfl rfl (by omega) (by omega)
      by_cases hk1 : k = 1
      · have hd : Hid (((from' t i).take k).drop 1 = []) := by show _ = _; rw [hk1]; simp
        have tk : decide (0 < k - 1) = false := by simp; omega
        have tk2 : decide ((0 : Int) < ((k - 1 : Nat) : Int)) = false := by simp; omega
        have hk1' := Lib.hid hk1
        clear hk1
        go_wp2
        go_ret2
        obtain ⟨a9, n9, c9, hv9, r9⟩ := hfin.out.rr
        cases hv9
        exact ⟨_, _, _, rfl, by rw [hlk.out, hd.out, if_pos rfl, List.append_nil]; exact r9, hb3'.out.trans (B7.out.mono (by omega))⟩
      · have hd : Hid (((from' t i).take k).drop 1 ≠ []) := by
          show _ ≠ _
          intro q
          have := congrArg List.length q
          simp at this
          have := hlen'.out
          omega
        have tk : decide (0 < k - 1) = true := by simp; omega
        have tk2 : decide ((0 : Int) < ((k - 1 : Nat) : Int)) = true := by simp; omega
        obtain ⟨vs2, q1, q2, q3⟩ := hfin.out
        have hl2 : vs2.length = vs.length + 1 := by rw [q2]; simp; have := o2'.out; omega
        have r8 : Hid (Rd .i64 w7 (some ⟨b1, of1 + 1, none⟩) (k - 1) (c1 - 1) (nats (((from' t i).take k).drop 1))) := by
          have := ((r3'.out.keep B7.out.size (fun ad e => by cases e; exact B7.out.block _ hlaB)).cut (lo := 1) (hi := k) (by omega) (by omega))
          rw [cutA_lt (by omega)] at this
          rw [nats_drop, nats_take]; exact this
        have hcA : cutA (some ⟨b1, of1, none⟩) c1 1 = some ⟨b1, of1 + 1, none⟩ := cutA_lt (by omega)
        rw [hcA] at hcut2
        have hs7 : w2.heap.size ≤ w7.heap.size := Nat.le_trans hsz23 B7.out.size
        have hblk2 : Hid (∀ ad, some (⟨b1, of1 + 1, none⟩ : Addr) = some ad → (Value.slice a7 (vs.length + 1) c7).ownBlock ≠ some ad.block ∧ ad.block < w7.heap.size) := by
          intro ad e
          cases e
          exact ⟨hlv, Nat.lt_of_lt_of_le hlaB hs7⟩
        have q2' := Lib.hid q2
        have q3' := Lib.hid q3
        clear hcA q2 q3 hlv hk1 hfin
        go_wp2_with (first
          | (at_builtin; refine wpl_push rfl (.tmp 61) (.tmp 65) 29 33 rfl Try.underlying29 infoInts rfl w2.heap.size _ _ (.slice (some ⟨b1, of1 + 1, none⟩) (k - 1) (c1 - 1)) rfl rfl rfl q1 (by rw [hl2]; unfold maxLen; omega) (by rw [hl2]; omega) hs7 ?_))
        intro v8 w8 o10 p10
        have hfin2 := Lib.hid (Rls.push q1 q2'.out q3'.out r8.out hblk2.out o10 p10)
        have B8 := Lib.hid (hb3'.out.trans ((B7.out.mono (by omega)).trans (p10.below (by omega) (fun k hk => by have := (q1.lt hk).1; omega))))
        clear o10 p10 q1 hl2
        go_wp2
        go_ret2
        obtain ⟨a9, n9, c9, rfl, r9⟩ := hfin2.out.rr
        exact ⟨a9, n9, c9, rfl, by rw [hlk.out, if_neg hd.out]; exact r9, B8.out⟩

end Go.Proofs.Ytmkkkhlalacaiaa

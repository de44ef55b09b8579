/- The drawn laws FnDoMoves and FnNew, walked. Written by gendrawnb.py. -/
import Derived.Test.YtjkpphenfcddlaaUse
import Derived.Test.YtjkpphenfcddlaaNewDo
import Derived.Test.YtjkpphenfcddlaaFind
namespace Go.Proofs.Ytjkpphenfcddlaa
open Go.RowKit
open Go.Proofs.Ytjkpphenfcddlaa.Rm
set_option linter.unusedVariables false

theorem mem_natsB {l : List Nat} {j : Nat} : (j : Int) ∈ nats l ↔ j ∈ l := by
  unfold nats
  rw [List.mem_map]
  constructor
  · rintro ⟨k, hk, e⟩; rw [← Int.ofNat_inj.1 e]; exact hk
  · intro h; exact ⟨j, h, rfl⟩
theorem nats_nodup {l : List Nat} (h : l.Nodup) : (nats l).Nodup := by
  unfold nats
  rw [List.nodup_iff_pairwise_ne, List.pairwise_map]
  rw [List.nodup_iff_pairwise_ne] at h
  exact h.imp fun hne e => hne (Int.ofNat_inj.1 e)
/-- Where an element of a ring's list is. -/
theorem placeI_at (xs : List Int) {i : Nat} (hi : i < tot xs) {k : Nat} (hk : k < (from' (mk xs) i).length) : placeI (nats (from' (mk xs) i)) (mv (mk xs) i (k : Int) : Nat) = (k : Int) := by
  have hk' : k < (nats (from' (mk xs) i)).length := by rw [nats_length]; exact hk
  have e := mk_from_get xs hi hk
  rw [List.getD_eq_getElem?_getD, List.getElem?_eq_getElem hk'] at e
  simp only [Option.getD_some] at e
  unfold placeI
  rw [← e, if_pos (List.getElem_mem _), (nats_nodup (mk_from_nodup xs hi)).idxOf_getElem _ hk']

set_option maxHeartbeats 1000000 in
theorem fnDoMoves_walk (a0 : Option Addr) (n0 c0 : Nat) (x0 : List Int) (w : World) (h0 : Rd .u8 w a0 n0 c0 x0) (f0 : ∀ x ∈ x0, (Lit.int .u8 x).wf = true) (s0 : c0 * 1 ≤ 140737488351232) (d0 : ∀ ad, a0 = some ad → ad.block < w.heap.size) :
    Calls Try.prog 10 #[.slice a0 n0 c0] w fun e w' => e = .returned (.bool true) ∧ Below w.heap.size w w' := by
  have hnot : ∀ (x : Bool) (w : World), (Op.unary .not (.bool x)).run Try.prog w = .ok (.bool (!x)) w := fun _ _ => rfl
  have l := h0.le
  have hB := Lib.hid (bytes_of_wf f0)
  have hd0 := Lib.hid d0
  have h0' := Lib.hid h0
  clear f0 d0 h0
  go_enter Try.func10, Try.ntmps10
  go_wp2_with fail
  refine (large_calls a0 n0 c0 w (by omega)).mono ?_
  rintro e w' ⟨rfl, rfl⟩
  by_cases hbig : 1048576 < n0
  · have tb : decide (1048576 < n0) = true := by simpa using hbig
    go_wp2
    go_ret
    exact ⟨rfl, Below.refl _ _⟩
  have tb : decide (1048576 < n0) = false := by simpa using hbig
  clear hbig
  go_wp2_with fail
  refine (drawDo_calls w a0 n0 c0 x0 h0'.out hB.out hd0.out).mono ?_
  clear h0' hB hd0 tb
  rintro e w1 ⟨a1, n1, c1, xs, m, rfl, hz0, hm, hbw⟩
  have hz := Lib.hid hz0
  have hb0 := Lib.hid hbw
  have ht := hz0.t21
  clear hz0 hbw
  go_wp2_with fail
  refine (hz.out.fits m hm).mono ?_
  rintro e w' ⟨rfl, rfl⟩
  by_cases hi : m < tot xs
  case neg =>
    have tf : decide (m < tot xs) = false := by simpa using hi
    have ho := Lib.hid (show tot xs ≤ m by omega)
    rw [tf]
    clear hi tf
    go_wp2_with fail
    refine (hz.out.do_out m hm ho.out w1 (Below.refl _ _)).mono ?_
    rintro e w2 ⟨a2, n2, c2, rfl, hr2, hb2⟩
    have e2 := hr2.len
    simp only [List.length_nil] at e2
    subst e2
    clear hr2
    go_wp2_with fail
    refine (hz.out.len_out m hm ho.out w2 hb2).mono ?_
    rintro e w3 ⟨rfl, hb3⟩
    go_wp2
    go_ret
    exact ⟨rfl, hb0.out.trans (hb3.mono hb0.out.size)⟩
  have tf : decide (m < tot xs) = true := by simpa using hi
  rw [tf]
  have hi' := Lib.hid hi
  clear hi tf
  go_wp2_with fail
  refine (hz.out.do_in m hm hi'.out w1 (Below.refl _ _)).mono ?_
  rintro e w2 ⟨a2, n2, c2, rfl, hr2, hb2⟩
  have hz2 := Lib.hid (hz.out.below hb2 (Nat.le_refl _))
  have hb2' := Lib.hid (hb0.out.trans (hb2.mono hb0.out.size))
  have hlen := hr2.len
  rw [nats_length] at hlen
  have hpos : 0 < n2 := by rw [← hlen]; exact from_mk_pos xs hi'.out
  have hn2 : n2 ≤ 21 := by rw [← hlen]; have := from_mk_le xs hi'.out; omega
  have hle := hr2.le
  obtain ⟨b, of, rfl, hbl, hcell⟩ := hr2.at hpos
  have hr2' := Lib.hid hr2
  have hcell' := Lib.hid hcell
  have hlen' := Lib.hid hlen
  clear hr2 hb2 hz hb0 hcell hlen
  have hmove : Hid (∀ k : Nat, k < n2 → ∀ u, Below w2.heap.size w2 u → Calls Try.prog 23 #[.slice a1 n1 c1, .int .u16 (m : Int), .int .i64 (k : Int)] u (NumB w2 (mv (mk xs) m (k : Int) : Nat))) :=
    fun k hk u hu => hz2.out.move_in m (k : Int) hm (by omega) hi'.out u hu
  have hplace : Hid (∀ k : Nat, k < n2 → ∀ u, Below w2.heap.size w2 u → Calls Try.prog 16 #[.slice (some ⟨b, of, none⟩) n2 c2, .int .i64 (mv (mk xs) m (k : Int) : Nat)] u fun e u' => e = .returned (.int .i64 (k : Int)) ∧ u = u') := by
    intro k hk u hu
    have := place_calls (some ⟨b, of, none⟩) n2 c2 _ (mv (mk xs) m (k : Int) : Nat) u (hr2'.out.below hu (Nat.le_refl _))
    rwa [placeI_at xs hi'.out (by rw [hlen'.out]; exact hk)] at this
  have hcl : Hid (∀ k : Nat, k < n2 → ∀ u, Below w2.heap.size w2 u → u.cell? ⟨b, of + k, none⟩ = some (.int .i64 (mv (mk xs) m (k : Int) : Nat))) := by
    intro k hk u hu
    rw [hu.cell (p := ⟨b, of + k, none⟩) hbl, hcell'.out k hk, mk_from_get xs hi'.out (by rw [hlen'.out]; exact hk)]
  have hbnd : Hid (∀ k : Nat, mv (mk xs) m (k : Int) ≤ 21) := fun k => by have := mv_mk_lt xs hi'.out (k : Int); omega
  have hlenc := hz2.out.len_in m hm hi'.out
  rw [hlen'.out] at hlenc
  have hlenc' := Lib.hid hlenc
  clear hlenc
  go_wp2
  go_loopw [35] (fun v wr => ∃ k : Nat, k ≤ n2 ∧ v = .int .i64 (k : Int) ∧ Hid (Below w2.heap.size w2 wr)) (fun v _ => n2 - (intOf v).toNat)
  case atStart => exact ⟨0, Nat.zero_le _, rfl, Below.refl _ _⟩
  case round =>
    obtain ⟨k, hk, rfl, hbr⟩ := hrel
    by_cases hlt : k < n2
    · have hc := hcl.out k hlt wr hbr.out
      have h1 := hmove.out k hlt
      have h2 := hplace.out k hlt
      have h3 := hbnd.out k
      generalize mv (mk xs) m (k : Int) = y at hc h1 h2 h3
      have h1' := Lib.hid h1
      have h2' := Lib.hid h2
      clear h1 h2
      have t1 : ((y : Int) != (y : Int)) = false := by simp
      have t2 : ((k : Int) != (k : Int)) = false := by simp
      go_wp2_with fail
      refine (h1'.out _ hbr.out).mono ?_
      rintro e w3 ⟨rfl, hb3⟩
      clear hc
      go_wp2_with fail
      refine (h2'.out _ hb3).mono ?_
      rintro e w4 ⟨rfl, rfl⟩
      have hb3' := Lib.hid hb3
      clear hb3 hbr
      go_wp2
      go_roundw
      case rel => exact ⟨k + 1, hlt, by go_num, hb3'⟩
      case measure => simp [intOf]; omega
    · obtain rfl : k = n2 := by omega
      have q : ¬ ((k : Int) < (k : Int)) := by omega
      go_wp2_with fail
      refine (hlenc'.out _ hbr.out).mono ?_
      rintro e w3 ⟨rfl, hb3⟩
      have tp : decide (0 < k) = true := by simpa using hpos
      go_wp2
      go_ret
      exact ⟨rfl, hb2'.out.trans (hb3.mono hb2'.out.size)⟩

/-- A number was drawn. -/
def DrawnNum (w : World) (e : Ending) (w' : World) : Prop := ∃ m : Nat, e = .returned (.int .u16 (m : Int)) ∧ m ≤ 400 ∧ Below w.heap.size w w'
set_option maxHeartbeats 400000 in
theorem drawNewDo_calls (w : World) (a : Option Addr) (n c : Nat) (bs : List Int) (h : Rd .u8 w a n c bs) (hb : Bytes bs) (hlt : ∀ ad, a = some ad → ad.block < w.heap.size) :
    Calls Try.prog 27 #[.slice a n c] w (DrawnNum w) := by
  have hd := Lib.hid (drw_start h hb hlt)
  have hb1 : Hid (Below w.heap.size w (w.alloc (.cells #[.slice a n c, .int .i64 0] 59))) := (Below.refl _ _).alloc (Nat.le_refl _) _
  clear h hb
  go_enter Try.func27, Try.ntmps27
  go_wp2_with fail
  refine (pick_calls _ w.heap.size a n c bs 0 9 hd.out (by omega) (by omega)).mono ?_
  rintro e w1 ⟨k1, rfl, hk1, hd1, hs1⟩
  have hb2 := Lib.hid (hb1.out.trans (hs1.below (Nat.le_refl _)))
  have k1b : k1 ≤ 8 := by omega
  clear hd hb1 hs1 hk1
  go_wp2_with fail
  refine (pick_calls _ w.heap.size a n c bs 1 2 hd1 (by omega) (by omega)).mono ?_
  rintro e w2 ⟨k2, rfl, hk2, hd2, hs2⟩
  have hb3 := Lib.hid (hb2.out.trans (hs2.below (Nat.le_refl _)))
  have k2b : k2 ≤ 1 := by omega
  clear hd1 hb2 hs2 hk2
  go_wp2_with fail
  refine (pick_calls _ w.heap.size a n c bs 2 300 hd2 (by omega) (by omega)).mono ?_
  rintro e w3 ⟨k3, rfl, hk3, hd3, hs3⟩
  have hb4 := Lib.hid (hb3.out.trans (hs3.below (Nat.le_refl _)))
  have k3b : k3 ≤ 299 := by omega
  clear hd2 hb3 hs3 hk3 hd3
  have hp : ((k2 : Int) * (k3 : Int)) = ((k2 * k3 : Nat) : Int) := by simp
  have hp2 : k2 * k3 ≤ 299 := by
    have : k2 = 0 ∨ k2 = 1 := by omega
    rcases this with rfl | rfl
    · simp
    · omega
  have hq1 : 0 ≤ (k2 : Int) * (k3 : Int) := by rw [hp]; omega
  have hq2 : (k2 : Int) * (k3 : Int) ≤ 299 := by rw [hp]; omega
  have hp' := Lib.hid hp
  clear hp
  go_wp2
  go_ret
  exact ⟨k1 + k2 * k3, by simp, by omega, hb4.out⟩

theorem from_one (x : Int) : (from' (mk [x]) 0).length = szN x := by
  have h : (0 : Nat) ∈ List.range' 0 (szN x) := by rw [List.mem_range'_1]; have := szN_pos x; omega
  have e : mk [x] = [List.range' 0 (szN x)] := rfl
  rw [e]
  simp only [from', if_pos h, turn_length, List.length_range']
theorem tot_one (x : Int) : tot [x] = szN x := by simp [tot]
/-- A literal of one size. -/
theorem rd_one (w : World) (m : Nat) : Rd .u16 (w.alloc (.cells #[.int .u16 (m : Int)] 23)) (some ⟨w.heap.size, 0, none⟩) 1 1 [(m : Int)] :=
  Rd.blk (l := [.int .u16 (m : Int)]) (heap_alloc_new w _) rfl (Nat.le_refl _) (by unfold maxLen; omega) (fun i hi => by match i, hi with | 0, _ => rfl)
theorem wf_one {m : Nat} (hm : m ≤ 65535) : ∀ x ∈ [(m : Int)], (Lit.int .u16 x).wf = true := by
  intro x hx
  simp at hx
  subst hx
  simp [Lit.wf, IntKind.min, IntKind.max, IntKind.signed, IntKind.bits]
  omega

set_option maxHeartbeats 1000000 in
theorem fnNew_walk (a0 : Option Addr) (n0 c0 : Nat) (x0 : List Int) (w : World) (h0 : Rd .u8 w a0 n0 c0 x0) (f0 : ∀ x ∈ x0, (Lit.int .u8 x).wf = true) (s0 : c0 * 1 ≤ 140737488351232) (d0 : ∀ ad, a0 = some ad → ad.block < w.heap.size) :
    Calls Try.prog 9 #[.slice a0 n0 c0] w fun e w' => e = .returned (.bool true) ∧ Below w.heap.size w w' := by
  have hnot : ∀ (x : Bool) (w : World), (Op.unary .not (.bool x)).run Try.prog w = .ok (.bool (!x)) w := fun _ _ => rfl
  have l := h0.le
  have hB := Lib.hid (bytes_of_wf f0)
  have hd0 := Lib.hid d0
  have h0' := Lib.hid h0
  clear f0 d0 h0
  go_enter Try.func9, Try.ntmps9
  go_wp2_with fail
  refine (large_calls a0 n0 c0 w (by omega)).mono ?_
  rintro e w' ⟨rfl, rfl⟩
  by_cases hbig : 1048576 < n0
  · have tb : decide (1048576 < n0) = true := by simpa using hbig
    go_wp2
    go_ret
    exact ⟨rfl, Below.refl _ _⟩
  have tb : decide (1048576 < n0) = false := by simpa using hbig
  clear hbig
  go_wp2_with fail
  refine (drawNewDo_calls w a0 n0 c0 x0 h0'.out hB.out hd0.out).mono ?_
  clear h0' hB hd0 tb
  rintro e w1 ⟨m, rfl, hm, hbw⟩
  have hb0 := Lib.hid hbw
  clear hbw
  have hsz : szN (m : Int) ≤ 400 := by unfold szN; omega
  have hsp := szN_pos (m : Int)
  go_wp2_with fail
  refine (newDo_calls w1 m (by omega)).mono ?_
  rintro e w2 ⟨rfl, hb2⟩
  have B2 := Lib.hid (hb0.out.trans (hb2.mono hb0.out.size))
  clear hb2 hb0
  have hnl : Hid (Calls Try.prog 29 #[.int .i64 (m : Int)] w2 (NewLenPost w2 m (decide (m = 0)))) := by
    by_cases q : m = 0
    · subst q; exact newLen_none w2 0 (by omega)
    · rw [show decide (m = 0) = false by simpa using q]; exact newLen_calls w2 m (by omega) (by omega)
  go_wp2_with fail
  refine hnl.out.mono ?_
  rintro e w3 ⟨rfl, hb3⟩
  have B3 := Lib.hid (B2.out.trans (hb3.mono B2.out.size))
  clear hb3 B2 hnl
  have hba : Hid (Below w3.heap.size w3 (w3.alloc (.cells #[.int .u16 (m : Int)] 23))) := (Below.refl _ _).alloc (Nat.le_refl _) _
  have hdo := Lib.hid (iDo_in (w3.alloc (.cells #[.int .u16 (m : Int)] 23)) (some ⟨w3.heap.size, 0, none⟩) 1 1 [(m : Int)] 0 (rd_one w3 m) (wf_one (by omega)) (by omega) (by rw [tot_one]; omega) (by rw [tot_one]; omega) (by omega))
  go_wp2_with fail
  refine hdo.out.mono ?_
  rintro e w4 ⟨a4, n4, c4, rfl, hr4, hb4⟩
  have B4 := Lib.hid (B3.out.trans ((hba.out.trans (hb4.mono hba.out.size)).mono B3.out.size))
  have hl4 := hr4.len
  rw [nats_length, from_one] at hl4
  clear hb4 hr4 hdo hba B3
  have t0 : szN 0 = 1 := rfl
  have hba : Hid (Below w4.heap.size w4 (w4.alloc (.cells #[.int .u16 0] 23))) := (Below.refl _ _).alloc (Nat.le_refl _) _
  have hln := iLen_in (w4.alloc (.cells #[.int .u16 0] 23)) (some ⟨w4.heap.size, 0, none⟩) 1 1 [0] 0 (rd_one w4 0) (wf_one (m := 0) (by omega)) (by omega) (by rw [tot_one, t0]; omega) (by rw [tot_one, t0]; omega) (by omega)
  rw [from_one, t0] at hln
  have hln' := Lib.hid hln
  clear hln
  by_cases hz : m = 0
  · subst hz
    have e4 : n4 = 1 := by rw [← hl4]; rfl
    subst e4
    clear hl4 hsz hsp
    go_wp2_with fail
    refine hln'.out.mono ?_
    rintro e w5 ⟨rfl, hb5⟩
    have B5 := Lib.hid (B4.out.trans ((hba.out.trans (hb5.mono hba.out.size)).mono B4.out.size))
    clear hb5 hba B4 hln'
    have hba : Hid (Below w5.heap.size w5 (w5.alloc (.cells #[.int .u16 0] 23))) := (Below.refl _ _).alloc (Nat.le_refl _) _
    have hnx := iNext_in (w5.alloc (.cells #[.int .u16 0] 23)) (some ⟨w5.heap.size, 0, none⟩) 1 1 [0] 0 (rd_one w5 0) (wf_one (m := 0) (by omega)) (by omega) (by rw [tot_one, t0]; omega) (by rw [tot_one, t0]; omega) (by omega)
    have e5 : mv (mk [0]) 0 1 = 0 := by have := mv_mk_lt [0] (i := 0) (by rw [tot_one, t0]; omega) 1; rw [tot_one, t0] at this; omega
    rw [e5] at hnx
    have hnx' := Lib.hid hnx
    clear hnx e5 t0
    go_wp2_with fail
    refine hnx'.out.mono ?_
    rintro e w6 ⟨rfl, hb6⟩
    have B6 := Lib.hid (B5.out.trans ((hba.out.trans (hb6.mono hba.out.size)).mono B5.out.size))
    clear hb6 hba B5 hnx'
    go_wp2
    go_ret
    exact ⟨by simp, B6.out⟩
  · have e4 : n4 = m := by rw [← hl4]; unfold szN; omega
    subst e4
    have hm1 : ¬ ((n4 : Int) < 1) := by omega
    have hz2 : ((n4 : Int) == 0) = false := by simpa using hz
    have hz3 : decide (n4 = 0) = false := by simpa using hz
    clear hl4 hsz hsp
    go_wp2_with fail
    refine hln'.out.mono ?_
    rintro e w5 ⟨rfl, hb5⟩
    have B5 := Lib.hid (B4.out.trans ((hba.out.trans (hb5.mono hba.out.size)).mono B4.out.size))
    clear hb5 hba B4 hln'
    have hba : Hid (Below w5.heap.size w5 (w5.alloc (.cells #[.int .u16 0] 23))) := (Below.refl _ _).alloc (Nat.le_refl _) _
    have hnx := iNext_in (w5.alloc (.cells #[.int .u16 0] 23)) (some ⟨w5.heap.size, 0, none⟩) 1 1 [0] 0 (rd_one w5 0) (wf_one (m := 0) (by omega)) (by omega) (by rw [tot_one, t0]; omega) (by rw [tot_one, t0]; omega) (by omega)
    have e5 : mv (mk [0]) 0 1 = 0 := by have := mv_mk_lt [0] (i := 0) (by rw [tot_one, t0]; omega) 1; rw [tot_one, t0] at this; omega
    rw [e5] at hnx
    have hnx' := Lib.hid hnx
    clear hnx e5 t0
    go_wp2_with fail
    refine hnx'.out.mono ?_
    rintro e w6 ⟨rfl, hb6⟩
    have B6 := Lib.hid (B5.out.trans ((hba.out.trans (hb6.mono hba.out.size)).mono B5.out.size))
    clear hb6 hba B5 hnx'
    go_wp2
    go_ret
    exact ⟨by simp, B6.out⟩

end Go.Proofs.Ytjkpphenfcddlaa

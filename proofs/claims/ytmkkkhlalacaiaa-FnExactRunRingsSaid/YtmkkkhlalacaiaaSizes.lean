/- What is drawn for rings: sizes, an element, steps. -/
import Derived.Test.YtmkkkhlalacaiaaSave
import Derived.Test.YtmkkkhlalacaiaaSMove
namespace Go.Proofs.Ytmkkkhlalacaiaa
open Go.RowKit
open Go.Proofs.Ytmkkkhlalacaiaa.Rm
set_option linter.unusedVariables false

/-- How many elements rings have. -/
def cnt (t : List (List Nat)) : Nat := (t.map List.length).sum
theorem cnt_take (t : List (List Nat)) (k : Nat) : cnt (t.take k) ≤ cnt t := by
  have e : cnt t = cnt (t.take k) + cnt (t.drop k) := by
    conv => lhs; rw [← List.take_append_drop k t]
    unfold cnt; rw [List.map_append, List.sum_append_nat]
  omega
theorem cnt_snoc (t : List (List Nat)) (l : List Nat) : cnt (t ++ [l]) = cnt t + l.length := by simp [cnt]
theorem cnt_mkFrom (M : Nat) (xs : List Int) : cnt (mkFrom M xs) = tot xs := by
  induction xs generalizing M with
  | nil => rfl
  | cons x xs ih =>
    have := ih (M + szN x)
    simp only [cnt, mkFrom, List.map_cons, List.sum_cons, List.length_range', tot] at this ⊢
    omega
theorem cnt_mk (xs : List Int) : cnt (mk xs) = tot xs := cnt_mkFrom 0 xs

set_option maxHeartbeats 400000 in
theorem count_calls (w : World) (a : Option Addr) (n c : Nat) (t : List (List Nat)) (h : Rr w a n c t) (hb : cnt t ≤ 1000000000) :
    Calls Try.prog 10 #[.slice a n c] w fun e w' => e = .returned (.int .i64 (cnt t : Nat)) ∧ w = w' := by
  have hle := h.2.1
  have hcm := h.2.2.1
  have htl := h.1
  have h' := Lib.hid h
  clear h
  go_enter Try.func10, Try.ntmps10
  go_wp2
  go_loop [3, 8] (fun s v => ∃ k : Nat, k ≤ n ∧ v = .int .i64 (k : Int) ∧ s = .int .i64 (cnt (t.take k) : Nat)) (fun _ v => n - (intOf v).toNat)
  case atStart => exact ⟨0, Nat.zero_le _, rfl, rfl⟩
  case round =>
    obtain ⟨k, hk, rfl, rfl⟩ := hrel
    by_cases hlt : k < n
    · obtain ⟨l, hlk⟩ : ∃ l, t[k]? = some l := ⟨_, List.getElem?_eq_getElem (by omega)⟩
      obtain ⟨b, off, a1, n1, c1, rfl, hb1, hc, hr⟩ := h'.out.2.2.2 k l hlk
      have e1 : cnt (t.take (k + 1)) = cnt (t.take k) + n1 := by
        rw [List.take_add_one, hlk]
        have := hr.len
        rw [nats_length] at this
        simp only [Option.toList_some, cnt_snoc, this]
      have h2 := cnt_take t (k + 1)
      have hle1 := hr.le
      rw [e1] at h2
      have e1' := Lib.hid e1
      clear e1 hr hlk
      generalize cnt (t.take k) = S at h2 e1' ⊢
      go_wp2
      go_round
      case rel => exact ⟨k + 1, hlt, by go_num, by rw [e1'.out]; congr 1⟩
      case measure => simp [intOf]; omega
    · obtain rfl : k = n := by omega
      have q : ¬ ((k : Int) < (k : Int)) := by omega
      have e : t.take k = t := List.take_of_length_le (by omega)
      rw [e]
      go_wp2
      go_ret
      exact ⟨rfl, rfl⟩

theorem infoU16 : (Try.prog.info? 25).map (fun i => (i.zero, i.size, i.bytes)) = some (some (.int .u16 0), 1, 2) := by kernel_rfl
/-- Every size is small. -/
def Smalls (xs : List Int) : Prop := ∀ x, x ∈ xs → 0 ≤ x ∧ x ≤ 7
theorem Smalls.wf {xs : List Int} (h : Smalls xs) : ∀ x ∈ xs, (Lit.int .u16 x).wf = true := by
  intro x hx
  have := h x hx
  simp [Lit.wf, IntKind.min, IntKind.max, IntKind.signed, IntKind.bits]
  omega
theorem Smalls.tot {xs : List Int} (h : Smalls xs) : tot xs ≤ 7 * xs.length := by
  induction xs with
  | nil => simp [Go.Proofs.Ytmkkkhlalacaiaa.tot]
  | cons x xs ih =>
    have h1 := h x (by simp)
    have h2 := ih (fun y hy => h y (by simp [hy]))
    have e : Go.Proofs.Ytmkkkhlalacaiaa.tot (x :: xs) = szN x + Go.Proofs.Ytmkkkhlalacaiaa.tot xs := by simp [Go.Proofs.Ytmkkkhlalacaiaa.tot]
    have : szN x ≤ 7 := by unfold szN; omega
    rw [e]; simp; omega

/-- What sizes comes to. -/
def SzDrawn (w : World) (R : Nat) (ba : Option Addr) (bn bc : Nat) (bs : List Int) (p : Nat) (e : Ending) (w' : World) : Prop :=
  ∃ a n c xs p', e = .returned (.slice a n c) ∧ Rd .u16 w' a n c xs ∧ n ≤ 3 ∧ Smalls xs ∧ (∀ ad, a = some ad → w.heap.size ≤ ad.block ∧ ad.block < w'.heap.size) ∧ p' ≤ p + 5 ∧ Drw w' R ba bn bc bs p' ∧ Save R w w'
/-- What the loop keeps. -/
def SzRel (w : World) (R : Nat) (ba : Option Addr) (bn bc : Nat) (bs : List Int) (p j : Nat) (v : Value) (wr : World) : Prop :=
  ∃ xs p', Own 25 w.heap.size wr v (xs.map (Value.int .u16)) ∧ xs.length + j ≤ 3 ∧ Smalls xs ∧ p' + j ≤ p + 4 ∧ Drw wr R ba bn bc bs p' ∧ Save R w wr
theorem SzRel.push {w w1 w2 : World} {R : Nat} {ba : Option Addr} {bn bc : Nat} {bs : List Int} {p j : Nat} {v v' : Value} {xs : List Int} {p' : Nat} {y : Int}
    (hx : xs.length + (j + 1) ≤ 3) (hi : Smalls xs) (hy : 0 ≤ y ∧ y ≤ 7) (hp' : p' + j ≤ p + 4) (hR : R < w.heap.size) (hba : ∀ ad, ba = some ad → ad.block < w.heap.size)
    (hd : Drw w1 R ba bn bc bs p') (hs : Save R w w1) (ho : Own 25 w.heap.size w1 v (xs.map (Value.int .u16)))
    (ho' : Own 25 w.heap.size w2 v' (xs.map (Value.int .u16) ++ [.int .u16 y])) (hp : Pushed w1 w2 v v') : SzRel w R ba bn bc bs p j v' w2 := by
  have hb : Below w.heap.size w1 w2 := hp.below hs.size (fun k hk => (ho.lt hk).1)
  refine ⟨xs ++ [y], p', by simpa using ho', by simp; omega, ?_, hp', hd.keep hb hR hba, ⟨hb.os.trans hs.os, hb.tape.trans hs.tape, hb.output.trans hs.output, Nat.le_trans hs.size hb.size, fun k hk hne => (hb.block k hk).trans (hs.block k hk hne)⟩⟩
  intro x hx
  rcases List.mem_append.1 hx with h | h
  · exact hi x h
  · simp at h; subst h; exact hy
theorem seven_cells (w : World) (k : Nat) (hk : k < 7) {g : Nat}
    (h : w.heap[g]? = some (.cells #[.int .u16 3, .int .u16 1, .int .u16 0, .int .u16 5, .int .u16 2, .int .u16 4, .int .u16 7] 25 (0, 0))) : ∃ y : Int, (0 ≤ y ∧ y ≤ 7) ∧ w.cell? ⟨g, k, none⟩ = some (.int .u16 y) := by
  match k, hk with
  | 0, _ => exact ⟨3, by omega, blk_cell (l := [_, _, _, _, _, _, _]) h rfl⟩
  | 1, _ => exact ⟨1, by omega, blk_cell (l := [_, _, _, _, _, _, _]) h rfl⟩
  | 2, _ => exact ⟨0, by omega, blk_cell (l := [_, _, _, _, _, _, _]) h rfl⟩
  | 3, _ => exact ⟨5, by omega, blk_cell (l := [_, _, _, _, _, _, _]) h rfl⟩
  | 4, _ => exact ⟨2, by omega, blk_cell (l := [_, _, _, _, _, _, _]) h rfl⟩
  | 5, _ => exact ⟨4, by omega, blk_cell (l := [_, _, _, _, _, _, _]) h rfl⟩
  | 6, _ => exact ⟨7, by omega, blk_cell (l := [_, _, _, _, _, _, _]) h rfl⟩

set_option maxHeartbeats 1000000 in
theorem sizes_calls (w : World) (R : Nat) (ba : Option Addr) (bn bc : Nat) (bs : List Int) (p : Nat) (h : Drw w R ba bn bc bs p) (hp : p ≤ 1000) (hba : ∀ ad, ba = some ad → ad.block < w.heap.size) :
    Calls Try.prog 28 #[.pointer (some ⟨R, 0, none⟩)] w (SzDrawn w R ba bn bc bs p) := by
  have hR := blk_lt h.blk
  have hb0 : Below w.heap.size w (w.alloc (.cells #[] 25)) := (Below.refl _ _).alloc (Nat.le_refl _) _
  have h0 := Lib.hid (h.keep hb0 hR hba)
  have ho0 := Lib.hid (Own.empty 25 w.heap.size w (Nat.le_refl _))
  have hs0 : Save R w (w.alloc (.cells #[] 25)) := Save.alloc _ _
  go_enter Try.func28, Try.ntmps28
  go_wp2_with fail
  refine (pick_calls _ R ba bn bc bs p 3 h0.out (by omega) (by omega)).mono ?_
  rintro e w1 ⟨k1, rfl, hk1, hd1, hs1⟩
  have ho1 := Lib.hid (ho0.out.save (Save.of_sole hs1) hR)
  have hs2 := hs0.trans (Save.of_sole hs1)
  have hk2 : k1 ≤ 2 := by omega
  clear h0 ho0 hs1 hs0 hb0 h hk1
  go_wp2
  go_loopw [3, 4] (fun v i wr => ∃ j : Nat, j ≤ 3 ∧ i = .int .i64 (j : Int) ∧ SzRel w R ba bn bc bs p j v wr) (fun _ i _ => (intOf i).toNat)
  case atStart => exact ⟨k1 + 1, by omega, by congr 1; omega, [], p + 1, ho1.out, by simp; omega, by intro x hx; simp at hx, by omega, hd1, hs2⟩
  case round =>
    clear ho1 hs2 hd1 hk2
    obtain ⟨j, hj, rfl, xs, p', ho, hlen, hints, hpp, hd, hs⟩ := hrel
    by_cases hj0 : j = 0
    · subst hj0
      obtain ⟨a, n1, c, rfl, hr⟩ := ho.rd
      have hr' := Lib.hid hr
      have ho' := Lib.hid ho
      clear hr ho
      go_wp2_with fail
      refine (pick_calls _ R ba bn bc bs p' 24 hd (by omega) (by omega)).mono ?_
      rintro e w3 ⟨k2, rfl, hk2, hd3, hs5⟩
      have ho3 := Lib.hid (ho'.out.save (Save.of_sole hs5) hR)
      have hs6 := hs.trans (Save.of_sole hs5)
      have hr3 := Lib.hid (hr'.out.save (Save.of_sole hs5) (fun ad e => by have := (ho'.out.lt (k := ad.block) (by rw [e]; rfl)).1; omega))
      clear hs5 hs hd hk2
      have hsz3 := hs6.size
      by_cases hz : k2 = 0
      · have t : ((k2 : Int) == 0) = true := by simp [hz]
        have hz' := Lib.hid hz
        clear hz
        have hbl : Below w3.heap.size w3 (w3.alloc (.cells #[] 25)) := (Below.refl _ _).alloc (Nat.le_refl _) _
        have hd4 := Lib.hid (hd3.keep hbl (by omega) (fun ad e => by have := hba ad e; omega))
        have hs7 := Lib.hid (hs6.trans (Save.of_below hbl (Nat.le_refl _)))
        clear hd3 hs6 hbl
        go_wp2
        go_ret
        exact ⟨_, _, _, [], p' + 1, rfl, Rd.mk' rfl (Nat.le_refl _) (by unfold maxLen; omega) (fun h => by omega) (fun i hi => by omega), by omega, by intro x hx; simp at hx, (by intro ad e; cases e; simp; omega), by omega, hd4.out, hs7.out⟩
      · have t : ((k2 : Int) == 0) = false := by simp [hz]
        clear hz
        go_wp2
        go_ret
        refine ⟨a, n1, c, xs, p' + 1, rfl, hr3.out, by have := hr3.out.len; omega, hints, ?_, by omega, hd3, hs6⟩
        intro ad e
        exact ho3.out.lt (k := ad.block) (by rw [e]; rfl)
    · obtain ⟨i, rfl⟩ : ∃ i, j = i + 1 := ⟨j - 1, by omega⟩
      clear hj0
      have tj : decide ((((i + 1 : Nat)) : Int) > 0) = true := by simp
      have hbl : Below wr.heap.size wr (wr.alloc (.cells #[.int .u16 3, .int .u16 1, .int .u16 0, .int .u16 5, .int .u16 2, .int .u16 4, .int .u16 7] 25)) := (Below.refl _ _).alloc (Nat.le_refl _) _
      have hsz3 := hs.size
      have hd4 := Lib.hid (hd.keep hbl (by omega) (fun ad e => by have := hba ad e; omega))
      have ho4 := Lib.hid (ho.below hbl (Nat.le_refl _))
      have hs7 := hs.trans (Save.of_below hbl (Nat.le_refl _))
      have hblk := Lib.hid (heap_alloc_new wr (.cells #[.int .u16 3, .int .u16 1, .int .u16 0, .int .u16 5, .int .u16 2, .int .u16 4, .int .u16 7] 25))
      clear hd ho hs hbl
      go_wp2_with fail
      refine (pick_calls _ R ba bn bc bs p' 7 hd4.out (by omega) (by omega)).mono ?_
      rintro e w4 ⟨k3, rfl, hk3, hd5, hs8⟩
      have hk4 : k3 < 7 := by omega
      have hblk2 := (hs8.block wr.heap.size (by omega)).trans hblk.out
      obtain ⟨y, hy, hcy⟩ := seven_cells w4 k3 hk4 hblk2
      have ho5 := ho4.out.save (Save.of_sole hs8) hR
      have hs9 := hs7.trans (Save.of_sole hs8)
      clear hblk hblk2 hd4 ho4 hs7 hs8 hk3
      have hsz := hs9.size
      have hle : (xs.map (Value.int .u16)).length + 1 ≤ 100 := by simp; omega
      go_wp2_with (first
        | (at_builtin; refine wpl_push rfl (.tmp 15) (.tmp 23) 22 25 rfl Try.underlying22 infoU16 rfl w.heap.size _ _ (.int .u16 y) rfl rfl rfl ho5 (by unfold maxLen; omega) (by omega) hsz ?_))
      intro v' w5 ho6 hp5
      have hN := Lib.hid (SzRel.push (p := p) (j := i) hlen hints hy (by omega) hR hba hd5 hs9 ho5 ho6 hp5)
      clear ho6 hp5 ho5 hd5 hs9 hle hsz hcy
      go_wp2
      go_roundw
      case rel => exact ⟨i, by omega, by go_num, hN.out⟩
      case measure => simp [intOf]

/-- What at comes to. -/
def AtDrawn (w : World) (R : Nat) (ba : Option Addr) (bn bc : Nat) (bs : List Int) (p : Nat) (e : Ending) (w' : World) : Prop :=
  ∃ m p' : Nat, e = .returned (.int .u16 (m : Int)) ∧ m ≤ 65535 ∧ p' ≤ p + 2 ∧ Drw w' R ba bn bc bs p' ∧ Save R w w'

end Go.Proofs.Ytmkkkhlalacaiaa

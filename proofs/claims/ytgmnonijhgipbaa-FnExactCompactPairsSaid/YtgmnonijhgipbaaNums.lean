/- (*rd).numbers returns a slice of at most so many numbers; only the drawer's own state turns. -/
import Derived.Test.YtgmnonijhgipbaaPick
import Derived.Test.YtgmnonijhgipbaaSpare
namespace Go.Proofs.Ytgmnonijhgipbaa
open Go.RowKit
set_option linter.unusedVariables false

/-- New blocks, and of the old ones only R may have turned. -/
structure Save (R : Nat) (w w' : World) : Prop where
  os : w'.os = w.os
  tape : w'.tape = w.tape
  output : w'.output = w.output
  size : w.heap.size ≤ w'.heap.size
  block : ∀ k, k < w.heap.size → k ≠ R → w'.heap[k]? = w.heap[k]?
theorem Save.refl (R : Nat) (w : World) : Save R w w := ⟨rfl, rfl, rfl, Nat.le_refl _, fun _ _ _ => rfl⟩
theorem Save.trans {R : Nat} {a b c : World} (h : Save R a b) (k : Save R b c) : Save R a c :=
  ⟨k.os.trans h.os, k.tape.trans h.tape, k.output.trans h.output, Nat.le_trans h.size k.size, fun i hi hne => (k.block i (Nat.lt_of_lt_of_le hi h.size) hne).trans (h.block i hi hne)⟩
theorem Save.of_sole {R : Nat} {w w' : World} (h : Sole R w w') : Save R w w' := ⟨h.os, h.tape, h.output, by rw [h.size]; exact Nat.le_refl _, fun k _ hne => h.block k hne⟩
theorem Save.of_below {R : Nat} {w w' : World} {B : Nat} (h : Below B w w') (hB : w.heap.size ≤ B) : Save R w w' := ⟨h.os, h.tape, h.output, h.size, fun k hk _ => h.block k (by omega)⟩
theorem Save.below {R B : Nat} {w w' : World} (h : Save R w w') (hB : B ≤ R) (hB2 : B ≤ w.heap.size) : Below B w w' := ⟨h.os, h.tape, h.output, h.size, fun k hk => h.block k (by omega) (by omega)⟩
theorem Save.alloc {R : Nat} (w : World) (o : Obj) : Save R w (w.alloc o) := .of_below ((Below.refl w.heap.size w).alloc (Nat.le_refl _) o) (Nat.le_refl _)
/-- What is read elsewhere than at R is read again. -/
theorem Rd.save {R : Nat} {w w' : World} {k : IntKind} {a : Option Addr} {n c : Nat} {xs : List Int} (h : Rd k w a n c xs) (hs : Save R w w') (hR : ∀ ad, a = some ad → ad.block ≠ R) : Rd k w' a n c xs := by
  obtain ⟨h1, h2, h3, h4, h5⟩ := h
  refine ⟨h1, h2, h3, h4, fun i hi => ?_⟩
  obtain ⟨b, off, e, hlt, hc⟩ := h5 i hi
  exact ⟨b, off, e, Nat.lt_of_lt_of_le hlt hs.size, by rw [World.cell?_of_block (w := w) (hs.block b hlt (hR _ e))]; exact hc⟩
theorem Own.save {E : TypeId} {base R : Nat} {w w' : World} {v : Value} {xs : List Value} (h : Own E base w v xs) (hs : Save R w w') (hR : R < base) : Own E base w' v xs :=
  h.keep fun k hk => hs.block k (h.lt hk).2 (by have := (h.lt hk).1; omega)
theorem Drw.keep {w w' : World} {R : Nat} {ba : Option Addr} {bn bc : Nat} {bs : List Int} {p : Nat} (h : Drw w R ba bn bc bs p) {B : Nat} (hb : Below B w w') (hR : R < B) (hB : ∀ ad, ba = some ad → ad.block < B) : Drw w' R ba bn bc bs p := by
  refine ⟨(hb.block R hR).trans h.blk, ?_, h.lo, h.off⟩
  obtain ⟨h1, h2, h3, h4, h5⟩ := h.rd
  refine ⟨h1, h2, h3, h4, fun i hi => ?_⟩
  obtain ⟨b, off, e, hlt, hc⟩ := h5 i hi
  exact ⟨b, off, e, Nat.lt_of_lt_of_le hlt hb.size, by rw [World.cell?_of_block (w := w) (hb.block b (hB _ e))]; exact hc⟩

/-- Every number of the list fits an int. -/
def Ints (xs : List Int) : Prop := ∀ x, x ∈ xs → -9223372036854775808 ≤ x ∧ x ≤ 9223372036854775807

/-- What numbers comes to. -/
def Drawn (w : World) (R : Nat) (ba : Option Addr) (bn bc : Nat) (bs : List Int) (p most : Nat) (e : Ending) (w' : World) : Prop :=
  ∃ a n c xs p', e = .returned (.slice a n c) ∧ Rd .i64 w' a n c xs ∧ n ≤ most ∧ c ≤ 9223372036854775807 ∧ Ints xs ∧ (∀ ad, a = some ad → w.heap.size ≤ ad.block ∧ ad.block < w'.heap.size) ∧ p' ≤ p + 2 * most + 2 ∧ Drw w' R ba bn bc bs p' ∧ Save R w w'

/-- What the loop of numbers keeps: j numbers are still to come. -/
def NumRel (w : World) (R : Nat) (ba : Option Addr) (bn bc : Nat) (bs : List Int) (p most j : Nat) (v : Value) (wr : World) : Prop :=
  ∃ xs p', Own 3 w.heap.size wr v (xs.map (Value.int .i64)) ∧ xs.length + j ≤ most ∧ Ints xs ∧ p' + 2 * j ≤ p + 2 * most + 2 ∧ Drw wr R ba bn bc bs p' ∧ Save R w wr

theorem NumRel.push {w w1 w2 : World} {R : Nat} {ba : Option Addr} {bn bc : Nat} {bs : List Int} {p most j : Nat} {v v' : Value} {xs : List Int} {p' : Nat} {y : Int}
    (hx : xs.length + (j + 1) ≤ most) (hi : Ints xs) (hy : -9223372036854775808 ≤ y ∧ y ≤ 9223372036854775807) (hp' : p' + 2 * j ≤ p + 2 * most + 2) (hR : R < w.heap.size) (hba : ∀ ad, ba = some ad → ad.block < w.heap.size)
    (hd : Drw w1 R ba bn bc bs p') (hs : Save R w w1) (ho : Own 3 w.heap.size w1 v (xs.map (Value.int .i64)))
    (ho' : Own 3 w.heap.size w2 v' (xs.map (Value.int .i64) ++ [.int .i64 y])) (hp : Pushed w1 w2 v v') : NumRel w R ba bn bc bs p most j v' w2 := by
  have hb : Below w.heap.size w1 w2 := hp.below hs.size (fun k hk => (ho.lt hk).1)
  refine ⟨xs ++ [y], p', by simpa using ho', by simp; omega, ?_, hp', hd.keep hb hR hba, ⟨hb.os.trans hs.os, hb.tape.trans hs.tape, hb.output.trans hs.output, Nat.le_trans hs.size hb.size, fun k hk hne => (hb.block k hk).trans (hs.block k hk hne)⟩⟩
  intro x hx
  rcases List.mem_append.1 hx with h | h
  · exact hi x h
  · simp at h; subst h; exact hy
theorem three_cells (w : World) (a b c : Int) (k : Nat) (hk : k < 3) (ha : -9223372036854775808 ≤ a ∧ a ≤ 9223372036854775807) (hb : -9223372036854775808 ≤ b ∧ b ≤ 9223372036854775807) (hc : -9223372036854775808 ≤ c ∧ c ≤ 9223372036854775807) {g : Nat}
    (h : w.heap[g]? = some (.cells #[.int .i64 a, .int .i64 b, .int .i64 c] 3 (0, 0))) : ∃ y : Int, (-9223372036854775808 ≤ y ∧ y ≤ 9223372036854775807) ∧ w.cell? ⟨g, k, none⟩ = some (.int .i64 y) := by
  match k, hk with
  | 0, _ => exact ⟨a, ha, blk_cell (l := [_, _, _]) h rfl⟩
  | 1, _ => exact ⟨b, hb, blk_cell (l := [_, _, _]) h rfl⟩
  | 2, _ => exact ⟨c, hc, blk_cell (l := [_, _, _]) h rfl⟩

set_option maxHeartbeats 1000000 in
theorem numbers_calls (w : World) (R : Nat) (ba : Option Addr) (bn bc : Nat) (bs : List Int) (p most : Nat) (h : Drw w R ba bn bc bs p) (hp : p ≤ 1000) (hm : most ≤ 100) (hba : ∀ ad, ba = some ad → ad.block < w.heap.size) :
    Calls Try.prog 28 #[.pointer (some ⟨R, 0, none⟩), .int .i64 (most : Int)] w (Drawn w R ba bn bc bs p most) := by
  have hR := blk_lt h.blk
  have hb0 : Below w.heap.size w (w.alloc (.cells #[] 3)) := (Below.refl _ _).alloc (Nat.le_refl _) _
  have h0 := Lib.hid (h.keep hb0 hR hba)
  have ho0 := Lib.hid (Own.empty 3 w.heap.size w (Nat.le_refl _))
  have hs0 : Save R w (w.alloc (.cells #[] 3)) := Save.alloc _ _
  go_enter Try.func28, Try.ntmps28
  go_wp2_with fail
  refine (pick_calls _ R ba bn bc bs p 12 h0.out (by omega) (by omega)).mono ?_
  rintro e w1 ⟨k1, rfl, hk1, hd1, hs1⟩
  have ho1 := Lib.hid (ho0.out.save (Save.of_sole hs1) hR)
  have hs2 := hs0.trans (Save.of_sole hs1)
  clear h0 ho0 hs1 hs0 hb0 h
  by_cases hz : k1 = 0
  · have t : ((k1 : Int) == 0) = true := by simp [hz]
    have hz' := Lib.hid hz
    clear hz
    go_wp2
    go_ret
    exact ⟨none, 0, 0, [], p + 1, rfl, Rd.nil _ _, by omega, by omega, by intro x hx; simp at hx, (by intro ad e; cases e), by omega, hd1, hs2⟩
  · have t : ((k1 : Int) == 0) = false := by simp [hz]
    clear hz hk1
    go_wp2_with fail
    refine (pick_calls _ R ba bn bc bs (p + 1) _ hd1 (by omega) (by omega)).mono ?_
    rintro e w2 ⟨n, rfl, hn, hd2, hs3⟩
    have ho2 := Lib.hid (ho1.out.save (Save.of_sole hs3) hR)
    have hs4 := hs2.trans (Save.of_sole hs3)
    have hnm : n ≤ most := by omega
    clear ho1 hs2 hs3 hd1 hn t
    go_wp2
    go_loopw [5, 6] (fun v i wr => ∃ j : Nat, j ≤ most ∧ i = .int .i64 (j : Int) ∧ NumRel w R ba bn bc bs p most j v wr) (fun _ i _ => (intOf i).toNat)
    case atStart => exact ⟨n, hnm, rfl, [], p + 1 + 1, ho2.out, by simpa using hnm, by intro x hx; simp at hx, by omega, hd2, hs4⟩
    case round =>
      clear ho2 hs4 hd2 hnm
      obtain ⟨j, hj, rfl, xs, p', ho, hlen, hints, hpp, hd, hs⟩ := hrel
      by_cases hj0 : j = 0
      · subst hj0
        obtain ⟨a, n1, c, rfl, hr⟩ := ho.rd
        have hr' := Lib.hid hr
        clear hr
        go_wp2
        go_ret
        refine ⟨a, n1, c, xs, p', rfl, hr'.out, by have := hr'.out.len; omega, hr'.out.le.2, hints, ?_, by omega, hd, hs⟩
        intro ad e
        exact ho.lt (k := ad.block) (by rw [e]; rfl)
      · obtain ⟨i, rfl⟩ : ∃ i, j = i + 1 := ⟨j - 1, by omega⟩
        clear hj0
        have tj : decide ((((i + 1 : Nat)) : Int) > 0) = true := by simp
        go_wp2_with fail
        refine (pick_calls _ R ba bn bc bs p' 16 hd (by omega) (by omega)).mono ?_
        rintro e w3 ⟨k2, rfl, hk2, hd3, hs5⟩
        have ho3 := ho.save (Save.of_sole hs5) hR
        have hs6 := hs.trans (Save.of_sole hs5)
        clear ho hs hs5 hd
        by_cases hz : k2 = 0
        · have t : ((k2 : Int) == 0) = true := by simp [hz]
          clear hz hk2
          have hbl : Below w3.heap.size w3 (w3.alloc (.cells #[.int .i64 (-9223372036854775808), .int .i64 9223372036854775807, .int .i64 (-1)] 3)) := (Below.refl _ _).alloc (Nat.le_refl _) _
          have hsz3 := hs6.size
          have hd4 := Lib.hid (hd3.keep hbl (by omega) (fun ad e => by have := hba ad e; omega))
          have ho4 := Lib.hid (ho3.below hbl (Nat.le_refl _))
          have hs7 := hs6.trans (Save.of_below hbl (Nat.le_refl _))
          have hblk := Lib.hid (heap_alloc_new w3 (.cells #[.int .i64 (-9223372036854775808), .int .i64 9223372036854775807, .int .i64 (-1)] 3))
          clear hd3 ho3 hs6 hbl
          go_wp2_with fail
          refine (pick_calls _ R ba bn bc bs (p' + 1) 3 hd4.out (by omega) (by omega)).mono ?_
          rintro e w4 ⟨k3, rfl, hk3, hd5, hs8⟩
          have hk4 : k3 < 3 := by omega
          have hblk2 := (hs8.block w3.heap.size (by omega)).trans hblk.out
          obtain ⟨y, hy, hcy⟩ := three_cells w4 _ _ _ k3 hk4 (by omega) (by omega) (by omega) hblk2
          have ho5 := ho4.out.save (Save.of_sole hs8) hR
          have hs9 := hs7.trans (Save.of_sole hs8)
          clear hblk hblk2 hd4 ho4 hs7 hs8 hk3
          have hsz := hs9.size
          have hle : (xs.map (Value.int .i64)).length + 1 ≤ 100 := by simp; omega
          go_wp2_with (first
            | (at_builtin; refine wpl_push rfl (.tmp 24) (.tmp 32) 22 3 rfl Try.underlying22 infoInt rfl w.heap.size _ _ (.int .i64 y) rfl rfl rfl ho5 (by unfold maxLen; omega) (by omega) hsz ?_))
          intro v' w5 ho6 hp5
          have hN := Lib.hid (NumRel.push (p := p) (most := most) (j := i) hlen hints hy (by omega) hR hba hd5 hs9 ho5 ho6 hp5)
          clear ho6 hp5 ho5 hd5 hs9 hle hsz hcy
          go_wp2
          go_roundw
          case rel => exact ⟨i, by omega, by go_num, hN.out⟩
          case measure => simp [intOf]
        · have t : ((k2 : Int) == 0) = false := by simp [hz]
          clear hz hk2
          go_wp2_with fail
          refine (pick_calls _ R ba bn bc bs (p' + 1) 4 hd3 (by omega) (by omega)).mono ?_
          rintro e w4 ⟨y, rfl, hy, hd4, hs7⟩
          have ho4 := ho3.save (Save.of_sole hs7) hR
          have hs8 := hs6.trans (Save.of_sole hs7)
          clear ho3 hs6 hs7 hd3
          have hsz := hs8.size
          have hle : (xs.map (Value.int .i64)).length + 1 ≤ 100 := by simp; omega
          go_wp2_with (first
            | (at_builtin; refine wpl_push rfl (.tmp 34) (.tmp 37) 22 3 rfl Try.underlying22 infoInt rfl w.heap.size _ _ (.int .i64 (y : Int)) rfl rfl rfl ho4 (by unfold maxLen; omega) (by omega) hsz ?_))
          intro v' w5 ho5 hp5
          have hN := Lib.hid (NumRel.push (p := p) (most := most) (j := i) (y := (y : Int)) hlen hints (by omega) (by omega) hR hba hd4 hs8 ho4 ho5 hp5)
          clear ho5 hp5 ho4 hd4 hs8 hle hsz
          go_wp2
          go_roundw
          case rel => exact ⟨i, by omega, by go_num, hN.out⟩
          case measure => simp [intOf]

end Go.Proofs.Ytgmnonijhgipbaa

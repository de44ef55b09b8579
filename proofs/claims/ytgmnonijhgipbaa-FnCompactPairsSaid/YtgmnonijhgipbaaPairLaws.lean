/- spec.DrawCompactPairs and the laws FnExactCompactPairs and FnCompactPairs, walked. -/
import Derived.Test.YtgmnonijhgipbaaOwnP
import Derived.Test.YtgmnonijhgipbaaCmpLaws
import Derived.Deep.QuietTactic
namespace Go.Proofs.Ytgmnonijhgipbaa
open Go.RowKit
set_option linter.unusedVariables false

theorem cmpTo_head (eq : Int → Int → Bool) (xs : List Int) (j : Nat) : (cmpTo eq xs (j + 1)).getD 0 0 = xs.getD 0 0 := by
  induction j with
  | zero => rw [cmpTo_keep (.inl rfl)]; simp [cmpTo]
  | succ j ih =>
    have hp := cmpTo_pos eq xs (j + 1) (by omega)
    by_cases h : j + 1 = 0 ∨ eq (xs.getD (j + 1) 0) (xs.getD (j + 1 - 1) 0) = false
    · rw [cmpTo_keep h]
      rw [List.getD_eq_getElem?_getD, List.getElem?_append_left hp, ← List.getD_eq_getElem?_getD]
      exact ih
    · rw [cmpTo_skip h]; exact ih
theorem cmpTo_none (xs : List Int) : cmpTo (eqP []) xs xs.length = xs := by
  have h : NoAdj (eqP []) xs := fun i _ _ => rfl
  rw [cmpTo_of_noAdj h _ (Nat.le_refl _), List.take_length]
theorem cmpTo_congr {eq eq' : Int → Int → Bool} {xs : List Int} : ∀ (n : Nat), (∀ j, 0 < j → j < n → eq (xs.getD j 0) (xs.getD (j - 1) 0) = eq' (xs.getD j 0) (xs.getD (j - 1) 0)) → cmpTo eq xs n = cmpTo eq' xs n
  | 0, _ => rfl
  | n + 1, h => by
    have ih := cmpTo_congr n fun j h1 h2 => h j h1 (by omega)
    by_cases hn : n = 0
    · rw [cmpTo_keep (.inl hn), cmpTo_keep (.inl hn), ih]
    · have e := h n (by omega) (by omega)
      simp only [cmpTo]
      rw [e, ih]
/-- Each number paired with itself. -/
def selfs (xs : List Int) : List (Int × Int) := xs.map fun x => (x, x)
theorem selfs_snoc (xs : List Int) (x : Int) : selfs (xs ++ [x]) = selfs xs ++ [(x, x)] := by simp [selfs]
theorem eqP_selfs {xs : List Int} {x y : Int} (h : x ∈ xs) : eqP (selfs xs) x y = eqC [] x y := by
  have e : eqC [] x y = (x == y) := by simp [eqC, classI]
  rw [e]
  by_cases q : x = y
  · subst q
    rw [show (x == x) = true by simp]
    have hm : (x, x) ∈ selfs xs := List.mem_map.2 ⟨x, h, rfl⟩
    exact eqP_mem hm (by simp) (by simp)
  · rw [show (x == y) = false by simpa using q]
    unfold eqP
    rw [List.any_eq_false]
    intro p hp
    obtain ⟨z, _, rfl⟩ := List.mem_map.1 hp
    simp only [Bool.and_eq_true, beq_iff_eq]
    rintro ⟨rfl, rfl⟩
    exact q rfl
theorem cmpTo_selfs (xs : List Int) (n : Nat) (hn : n ≤ xs.length) : cmpTo (eqP (selfs xs)) xs n = cmpTo (eqC []) xs n :=
  cmpTo_congr n fun j h1 h2 => eqP_selfs (getD_mem (by omega))

set_option maxHeartbeats 1000000 in
theorem fnExactCompactPairs_walk (a0 : Option Addr) (n0 c0 : Nat) (x0 : List Int) (a1 : Option Addr) (n1 c1 : Nat) (x1 : List (Int × Int)) (w : World)
    (h0 : Rd .i64 w a0 n0 c0 x0) (f0 : ∀ x ∈ x0, (Lit.int .i64 x).wf = true) (s0 : c0 * 8 ≤ 140737488351232) (h1 : RdP w a1 n1 c1 x1) (d1 : ∀ ad, a1 = some ad → ad.block < w.heap.size) :
    Calls Try.prog 3 #[.slice a0 n0 c0, .slice a1 n1 c1] w fun e w' => e = .returned (.bool true) ∧ Below w.heap.size w w' := by
  have l := h0.le
  have l1 := h1.2.1
  have l2 := h1.2.2.1
  have hlen := Lib.hid h0.len
  have hlen1 := Lib.hid h1.1
  have d1' := Lib.hid d1
  have h0' := Lib.hid h0
  have h1' := Lib.hid h1
  clear d1 f0 h0 h1
  go_enter Try.func3, Try.ntmps3
  go_wp2_with fail
  refine (cpairs_calls w a0 n0 c0 x0 a1 n1 c1 x1 h0'.out h1'.out (by omega) d1'.out).mono ?_
  rintro e w1 ⟨a2, n2, c2, rfl, r2, hb2⟩
  have hn2 := r2.len
  have l3 := r2.le
  have hb2' := Lib.hid hb2
  by_cases hz : n0 = 0
  · subst hz
    have e2 : n2 = 0 := by rw [← hn2]; rfl
    subst e2
    clear r2 hn2
    go_wp2
    go_ret
    exact ⟨rfl, hb2'.out⟩
  · have hpos : 0 < n2 := by rw [← hn2]; exact cmpTo_pos _ _ _ (by omega)
    have hle2 : n2 ≤ n0 := by rw [← hn2]; exact cmpTo_le _ _ _
    have t0 : ((n0 : Int) == 0) = false := by simpa using hz
    have hhead : (cmpTo (eqP x1) x0 n0).getD 0 0 = x0.getD 0 0 := by
      obtain ⟨k, rfl⟩ : ∃ k, n0 = k + 1 := ⟨n0 - 1, by omega⟩
      exact cmpTo_head _ _ _
    have hsub := gm_sub (cmpTo_sub (eqP x1) x0 n0 (by rw [hlen.out]; exact Nat.le_refl _))
    rw [List.take_of_length_le (by rw [hlen.out]; exact Nat.le_refl _)] at hsub
    have hpart : Hid (∀ q, Calls Try.prog 13 #[.slice a2 n2 c2, .slice a0 n0 c0] (w1.drewN q) fun e w' => e = .returned (.bool true) ∧ w' = w1.drewN q) := by
      intro q
      have := part_calls a2 a0 n2 c2 n0 c0 _ x0 (w1.drewN q) (r2.drewN q) ((h0'.out.below hb2 (Nat.le_refl _)).drewN q)
      rw [show decide (gm (cmpTo (eqP x1) x0 n0) x0 = []) = true from decide_eq_true hsub] at this
      exact this.mono fun e w' h => ⟨h.1, h.2.symm⟩
    have hall : Hid (n1 = 0 → n2 = n0) := by
      intro h
      have e : x1 = [] := List.eq_nil_of_length_eq_zero (by rw [hlen1.out]; exact h)
      subst e
      have := hlen.out
      rw [← hn2, ← this, cmpTo_none]
    obtain ⟨b2, o2, rfl, _, hc2⟩ := r2.at hpos
    have k2 := hc2 0 hpos
    rw [hhead] at k2
    obtain ⟨b0, o0, rfl, _, hc0⟩ := (h0'.out.below hb2 (Nat.le_refl _)).at (by omega)
    have k0 := hc0 0 (by omega)
    generalize x0.getD 0 0 = z at k0 k2
    have k2' : w1.cell? ⟨b2, o2, none⟩ = some (.int .i64 z) := k2
    have k0' : w1.cell? ⟨b0, o0, none⟩ = some (.int .i64 z) := k0
    have tz : (z == z) = true := by simp
    have t1 : decide (0 < n2) = true := by simpa using hpos
    have t2 : decide ((0 : Int) < (n2 : Int)) = true := by simpa using hpos
    have p0 : 0 < n0 := by omega
    clear hc2 hc0 k0 k2 hsub hhead hn2 r2 hz hb2
    by_cases hp : 0 < n1
    · have t3 : decide (0 < n1) = true := by simpa using hp
      have t4 : decide ((0 : Int) < (n1 : Int)) = true := by simpa using hp
      go_wp2
      go_quiet ((go_at_call 13; with_reducible exact Calls.quiet_of_same (hpart.out _)))
      go_wp2
      go_ret
      exact ⟨rfl, below_drewN hb2'.out _⟩
    · have t3 : decide (0 < n1) = false := by simpa using hp
      have t4 : decide ((0 : Int) < (n1 : Int)) = false := by simpa using hp
      obtain rfl := hall.out (by omega)
      have t5 : ((n2 : Int) == (n2 : Int)) = true := by simp
      go_wp2
      go_quiet ((go_at_call 13; with_reducible exact Calls.quiet_of_same (hpart.out _)))
      go_wp2
      go_ret
      exact ⟨rfl, below_drewN hb2'.out _⟩

theorem infoPair : (Try.prog.info? 37).map (fun i => (i.zero, i.size, i.bytes)) = some (some (.agg #[.int .i64 0, .int .i64 0]), 2, 16) := by kernel_rfl

/-- What the loop that draws pairs keeps: j pairs are still to come. -/
def DpRel (w1 : World) (R : Nat) (ba : Option Addr) (bn bc : Nat) (bs : List Int) (j : Nat) (v : Value) (wr : World) : Prop :=
  ∃ ps p', OwnP 37 w1.heap.size wr v ps ∧ ps.length + j ≤ 8 ∧ p' + 2 * j ≤ 60 ∧ Drw wr R ba bn bc bs p' ∧ Save R w1 wr
theorem OwnP.save {E : TypeId} {base R : Nat} {w w' : World} {v : Value} {ps : List (Int × Int)} (h : OwnP E base w v ps) (hs : Save R w w') (hR : R < base) : OwnP E base w' v ps :=
  h.keep fun k hk => hs.block k (h.lt hk).2 (by have := (h.lt hk).1; omega)
theorem DpRel.push {w1 wr w' : World} {R : Nat} {ba : Option Addr} {bn bc : Nat} {bs : List Int} {j : Nat} {v v' : Value} {ps : List (Int × Int)} {p : Int × Int} {p' : Nat} (hl : ps.length + (j + 1) ≤ 8) (hp' : p' + 2 * j ≤ 60) (hR : R < w1.heap.size) (hba : ∀ ad, ba = some ad → ad.block < w1.heap.size)
    (hd : Drw wr R ba bn bc bs p') (hs : Save R w1 wr) (ho0 : OwnP 37 w1.heap.size wr v ps) (ho : OwnP 37 w1.heap.size w' v' (ps ++ [p])) (hpu : Pushed wr w' v v') : DpRel w1 R ba bn bc bs j v' w' := by
  have hb : Below w1.heap.size wr w' := hpu.below hs.size (fun k hk => (ho0.lt hk).1)
  exact ⟨ps ++ [p], p', ho, by simp; omega, hp', hd.keep hb hR hba, ⟨hb.os.trans hs.os, hb.tape.trans hs.tape, hb.output.trans hs.output, Nat.le_trans hs.size hb.size, fun k hk hne => (hb.block k hk).trans (hs.block k hk hne)⟩⟩
/-- Numbers and pairs were drawn. -/
def DrawnP (w : World) (e : Ending) (w' : World) : Prop :=
  ∃ a n c xs b m d ps, e = .returned (.tuple #[.slice a n c, .slice b m d]) ∧ Rd .i64 w' a n c xs ∧ RdP w' b m d ps ∧ n ≤ 10 ∧ Ints xs ∧ (∀ ad, b = some ad → ad.block < w'.heap.size) ∧ Below w.heap.size w w'

set_option maxHeartbeats 1000000 in
theorem drawPairs_calls (w : World) (a : Option Addr) (n c : Nat) (bs : List Int) (h : Rd .u8 w a n c bs) (hb : Bytes bs) (hlt : ∀ ad, a = some ad → ad.block < w.heap.size) :
    Calls Try.prog 23 #[.slice a n c] w (DrawnP w) := by
  have hd := Lib.hid (drw_start h hb hlt)
  have hb0 : Below w.heap.size w (w.alloc (.cells #[.slice a n c, .int .i64 0] 46)) := (Below.refl _ _).alloc (Nat.le_refl _) _
  go_enter Try.func23, Try.ntmps23
  go_wp2_with fail
  refine (numbers_calls _ w.heap.size a n c bs 0 10 hd.out (by omega) (by omega) (fun ad e => by have := hlt ad e; simp; omega)).mono ?_
  rintro e w1 ⟨a1, n1, c1, xs, p1, rfl, hr1, hn1, hc1, hi1, hl1, hp1, hd1, hs1⟩
  have hsz := hs1.size
  simp only [World.size_alloc] at hsz
  have hlt1 : Hid (∀ ad, a1 = some ad → ad.block ≠ w.heap.size) := fun ad e => by have := (hl1 ad e).1; simp at this; omega
  have hb1 := Lib.hid (hb0.trans (hs1.below (Nat.le_refl _) (by simp)))
  have hba : Hid (∀ ad, a = some ad → ad.block < w1.heap.size) := fun ad e => by have := hlt ad e; omega
  have hi1' := Lib.hid hi1
  have hr1' := Lib.hid hr1
  have hba2 : Below w1.heap.size w1 (w1.alloc (.cells #[] 37)) := (Below.refl _ _).alloc (Nat.le_refl _) _
  have ho2 := Lib.hid (OwnP.empty 37 w1.heap.size w1 (Nat.le_refl _))
  have hd2 := Lib.hid (hd1.keep hba2 (by omega) hba.out)
  have hs2 : Hid (Save w.heap.size w1 (w1.alloc (.cells #[] 37))) := Save.alloc _ _
  have hp1' : p1 ≤ 22 := by omega
  clear hd hb0 hd1 hr1 hs1 hl1 hi1 hp1 h hb hlt hba2
  go_wp2_with fail
  refine (pick_calls _ w.heap.size a n c bs p1 8 hd2.out (by omega) (by omega)).mono ?_
  rintro e w2 ⟨k0, rfl, hk0, hd3, hs3⟩
  have hk8 : k0 ≤ 7 := by omega
  have h0 : Hid (DpRel w1 w.heap.size a n c bs k0 (.slice (some ⟨w1.heap.size, 0, none⟩) 0 0) w2) := ⟨[], p1 + 1, ho2.out.save (Save.of_sole hs3) (by omega), by simp; omega, by omega, hd3, hs2.out.trans (Save.of_sole hs3)⟩
  clear ho2 hd2 hs2 hd3 hs3 hk0
  go_wp2
  go_loopw [6, 7] (fun v i wr => ∃ j : Nat, j ≤ 8 ∧ i = .int .i64 (j : Int) ∧ Hid (DpRel w1 w.heap.size a n c bs j v wr)) (fun _ i _ => (intOf i).toNat)
  case atStart => exact ⟨k0, by omega, rfl, h0⟩
  case round =>
    clear h0
    obtain ⟨j, hj, rfl, hrl⟩ := hrel
    obtain ⟨ps, p', ho, hlen, hpp, hd, hs⟩ := hrl.out
    by_cases hj0 : j = 0
    · subst hj0
      obtain ⟨a9, c9, e9, r9⟩ := ho.rd
      subst e9
      have r9' := Lib.hid r9
      have ho' := Lib.hid ho
      have hb9 := Lib.hid (hs.below (B := w.heap.size) (Nat.le_refl _) (by omega))
      have hr9 := Lib.hid (hr1'.out.save hs hlt1.out)
      clear r9 hd hs ho hrl
      go_wp2
      go_ret2
      exact ⟨_, _, _, xs, _, _, _, ps, rfl, hr9.out, r9'.out, hn1, hi1'.out, (fun ad e => (ho'.out.lt (k := ad.block) (by rw [e]; rfl)).2), hb1.out.trans (hb9.out.mono (Nat.le_refl _))⟩
    · obtain ⟨i, rfl⟩ : ∃ i, j = i + 1 := ⟨j - 1, by omega⟩
      clear hj0
      have tj : decide ((((i + 1 : Nat)) : Int) > 0) = true := by simp
      obtain ⟨av, cv, rfl⟩ := ho.form
      clear hrl
      go_wp2_with fail
      refine (pick_calls _ w.heap.size a n c bs p' 4 hd (by omega) (by omega)).mono ?_
      rintro e w3 ⟨r1, rfl, hr1, hd3, hs3⟩
      have ho3 := ho.save (Save.of_sole hs3) (by omega)
      have hs4 := hs.trans (Save.of_sole hs3)
      clear ho hs hs3 hd
      go_wp2_with fail
      refine (pick_calls _ w.heap.size a n c bs (p' + 1) 4 hd3 (by omega) (by omega)).mono ?_
      rintro e w4 ⟨r2, rfl, hr2, hd4, hs5⟩
      have ho4 := ho3.save (Save.of_sole hs5) (by omega)
      have hs6 := hs4.trans (Save.of_sole hs5)
      have hd4' := Lib.hid hd4
      have hs6' := Lib.hid hs6
      have hsz4 := hs6.size
      clear ho3 hs4 hs5 hd3 hd4 hs6
      have hlenB : ps.length ≤ 8 := by omega
      go_wp2_with (first
        | (at_builtin; refine wpl_pushP (w := w4) rfl (.tmp 20) (.tmp 26) 23 37 rfl Try.underlying23 infoPair rfl w1.heap.size _ _ [((r1 : Int), (r2 : Int))] 1 #[.int .i64 (r1 : Int), .int .i64 (r2 : Int)] rfl rfl rfl (by simp [Act.eval]) ho4 (by unfold maxLen; omega) (by omega) hsz4 ?_))
      intro v9 w9 o9 p9
      have hN : Hid (DpRel w1 w.heap.size a n c bs i v9 w9) := DpRel.push (p := ((r1 : Int), (r2 : Int))) hlen (by omega) (by omega) hba.out hd4'.out hs6'.out ho4 o9 p9
      clear o9 p9 ho4
      go_wp2
      go_roundw
      case rel => exact ⟨i, by omega, by go_num, hN⟩
      case measure => simp [intOf]

set_option maxHeartbeats 2000000 in
theorem fnCompactPairs_walk (a0 : Option Addr) (n0 c0 : Nat) (x0 : List Int) (w : World) (h0 : Rd .u8 w a0 n0 c0 x0) (f0 : ∀ x ∈ x0, (Lit.int .u8 x).wf = true) (s0 : c0 * 1 ≤ 140737488351232) (d0 : ∀ ad, a0 = some ad → ad.block < w.heap.size) :
    Calls Try.prog 9 #[.slice a0 n0 c0] w fun e w' => e = .returned (.bool true) ∧ Below w.heap.size w w' := by
  have l := h0.le
  have hB := Lib.hid (bytes_of_wf f0)
  clear f0
  have hd0 := Lib.hid d0
  clear d0
  go_enter Try.func9, Try.ntmps9
  go_wp2_with fail
  refine (large_calls a0 n0 c0 w (by omega)).mono ?_
  rintro e w1 ⟨rfl, rfl⟩
  by_cases hL : 1048576 < n0
  · simp only [hL, decide_true]
    go_wp2
    go_ret
    exact ⟨rfl, Below.refl _ _⟩
  simp only [hL, decide_false]
  go_wp2_with fail
  refine (drawPairs_calls w a0 n0 c0 x0 h0 hB.out hd0.out).mono ?_
  rintro e w1 ⟨a1, n1, c1, xs, a2, n2, c2, ps, rfl, r1, r2, b1, i1, d2, hb1⟩
  have d2' := Lib.hid d2
  have i1' := Lib.hid i1
  have hl1 := Lib.hid r1.len
  have lr := r1.le
  have r1' := Lib.hid r1
  have r2' := Lib.hid r2
  have hb1' := Lib.hid hb1
  clear d2 i1 hB hd0 r1 r2 hb1 h0
  have hb2 : Hid (Below w1.heap.size w1 (w1.alloc (.cells #[] 37))) := (Below.refl _ _).alloc (Nat.le_refl _) _
  have o0 := Lib.hid (OwnP.empty 37 w1.heap.size w1 (Nat.le_refl _))
  go_wp2
  go_loopw [5, 22] (fun v i wr => ∃ k : Nat, k ≤ n1 ∧ i = .int .i64 k ∧ Hid (OwnP 37 w1.heap.size wr v (selfs (xs.take k))) ∧ Hid (Below w1.heap.size w1 wr)) (fun _ i _ => n1 - (intOf i).toNat)
  case atStart => exact ⟨0, Nat.zero_le _, rfl, o0, hb2⟩
  case round =>
    clear o0 hb2
    obtain ⟨k, hk, rfl, ho, hb⟩ := hrel
    have hsz := hb.out.size
    by_cases hlt : k < n1
    · obtain ⟨b, o, rfl, hblt, f1⟩ := (r1'.out.below hb.out (Nat.le_refl _)).at (by omega)
      have cc := f1 k hlt
      clear f1
      have hkl := Lib.hid (show k < xs.length by rw [hl1.out]; exact hlt)
      have hsn := selfs_snoc (xs.take k) (xs.getD k 0)
      rw [take_getD hkl.out] at hsn
      have hdl : (selfs (xs.take k)).length ≤ 10 := by simp [selfs]; omega
      generalize xs.getD k 0 = y at cc hsn
      have hsn' := Lib.hid hsn
      generalize selfs (xs.take k) = ds at ho hdl hsn'
      clear hsn
      obtain ⟨av, cv, rfl⟩ := ho.out.form
      have hown := ho.out
      go_wp2_with (first
        | (at_builtin; refine wpl_pushP (w := wr) rfl (.tmp 26) (.tmp 30) 23 37 rfl Try.underlying23 infoPair rfl w1.heap.size _ _ [(y, y)] 1 #[.int .i64 y, .int .i64 y] rfl rfl rfl (by simp [Act.eval]) hown (by unfold maxLen; omega) (by omega) hsz ?_))
      intro v' w2 ho' hp
      have hb4 := Lib.hid (hb.out.trans (hp.below hsz (fun k hk => (hown.lt hk).1)))
      have ho4 : Hid (OwnP 37 w1.heap.size w2 v' (selfs (xs.take (k + 1)))) := by show OwnP _ _ _ _ _; rw [hsn'.out]; exact ho'
      clear ho' hp ho cc hown hb hsz
      go_wp2
      go_roundw
      case rel => exact ⟨k + 1, by omega, by go_num, ho4, hb4⟩
      case measure => simp [intOf]; omega
    · have he : xs.take k = xs := List.take_of_length_le (by rw [hl1.out]; omega)
      rw [he] at ho
      obtain ⟨a3, c3, e3, r3⟩ := ho.out.rd
      subst e3
      have hlt3 : Hid (∀ ad, a3 = some ad → ad.block < wr.heap.size) := fun ad e => (ho.out.lt (k := ad.block) (by rw [e]; rfl)).2
      have hn3 : (selfs xs).length ≤ 10 := by simp [selfs, hl1.out]; omega
      have q1 := Lib.hid (r1'.out.below hb.out (Nat.le_refl _))
      have q2 := Lib.hid (r2'.out.below hb.out (Nat.le_refl _))
      have q3 := Lib.hid r3
      have hb5 := Lib.hid (hb1'.out.trans (hb.out.mono hb1'.out.size))
      have hd2 : Hid (∀ ad, a2 = some ad → ad.block < wr.heap.size) := fun ad e => Nat.lt_of_lt_of_le (d2'.out ad e) hb.out.size
      have hcs := cmpTo_selfs xs n1 (by rw [hl1.out]; exact Nat.le_refl _)
      have hcs' := Lib.hid hcs
      generalize hSL : (selfs xs).length = sl at hn3 q3 ⊢
      clear ho he r3 hb hcs hSL
      go_wp2_with fail
      refine (compact_calls wr a1 n1 c1 xs none 0 0 [] q1.out i1'.out (Rd.nil _ _) (by omega) (fun ad e => by cases e)).mono ?_
      rintro e w3 ⟨e1, m1, k1, e2, m2, k2, rfl, s1, s2, hnn1, hcc1, hb6⟩
      have hm1 := s1.len
      have hle := cmpTo_le (eqC []) xs n1
      have hz := cmpTo_zero_iff (eqC []) xs n1
      have s1' := Lib.hid s1
      have hb6' := Lib.hid hb6
      rw [hm1] at hle hz
      have t2 : (((n1 : Int) == 0) == ((m1 : Int) == 0)) = true := zero_test n1 m1 hz
      have hle1 : m1 ≤ n1 := hle
      clear s1 s2 hnn1 hm1 hz hle hb6
      go_wp2_with fail
      refine (cpairs_calls w3 a1 n1 c1 xs a2 n2 c2 ps (q1.out.below hb6'.out (Nat.le_refl _)) (q2.out.below hb6'.out (Nat.le_refl _)) (by omega) (fun ad e => Nat.lt_of_lt_of_le (hd2.out ad e) hb6'.out.size)).mono ?_
      rintro e w4 ⟨a5, m5, k5, rfl, s5, hb7⟩
      have B7 := Lib.hid (hb6'.out.trans (hb7.mono hb6'.out.size))
      have hsub := gm_sub (cmpTo_sub (eqP ps) xs n1 (by rw [hl1.out]; exact Nat.le_refl _))
      rw [List.take_of_length_le (by rw [hl1.out]; exact Nat.le_refl _)] at hsub
      have hsub' := Lib.hid hsub
      have s5' := Lib.hid s5
      have s7 := Lib.hid (s1'.out.below hb7 (Nat.le_refl _))
      clear s5 hsub hb7 s1'
      go_wp2_with fail
      refine (cpairs_calls w4 a1 n1 c1 xs a3 sl c3 (selfs xs) (q1.out.below B7.out (Nat.le_refl _)) (q3.out.below B7.out (Nat.le_refl _)) (by omega) (fun ad e => Nat.lt_of_lt_of_le (hlt3.out ad e) B7.out.size)).mono ?_
      rintro e w5 ⟨a6, m6, k6, rfl, s6, hb8⟩
      rw [hcs'.out] at s6
      have hsm := Lib.hid (same_calls _ _ _ _ _ _ _ _ w5 s6 (s7.out.below hb8 (Nat.le_refl _)))
      have B8 := Lib.hid (B7.out.trans (hb8.mono B7.out.size))
      have s8 := Lib.hid (s5'.out.below hb8 (Nat.le_refl _))
      clear s6 hb8 s7 s5'
      go_wp2_with fail
      refine hsm.out.mono ?_
      rintro e w6 ⟨rfl, hb9⟩
      simp only [decide_true]
      have B9 := Lib.hid (B8.out.trans (hb9.mono B8.out.size))
      have s9 := Lib.hid (s8.out.below hb9 (Nat.le_refl _))
      clear hsm hb9 s8
      go_wp2_with fail
      refine (cpairs_calls w6 a1 n1 c1 xs none 0 0 [] (q1.out.below B9.out (Nat.le_refl _)) (RdP.nil _) (by omega) (fun ad e => by cases e)).mono ?_
      rintro e w7 ⟨a8, m8, k8, rfl, s10, hb10⟩
      have B10 := Lib.hid (B9.out.trans (hb10.mono B9.out.size))
      rw [show cmpTo (eqP []) xs n1 = xs by have := cmpTo_none xs; rwa [hl1.out] at this] at s10
      have hsm2 := Lib.hid (same_calls _ _ _ _ _ _ _ _ w7 s10 (q1.out.below B10.out (Nat.le_refl _)))
      have s11 := Lib.hid (s9.out.below hb10 (Nat.le_refl _))
      clear s10 hb10 s9
      go_wp2_with fail
      refine hsm2.out.mono ?_
      rintro e w8 ⟨rfl, hb11⟩
      simp only [decide_true]
      have B11 := Lib.hid (B10.out.trans (hb11.mono B10.out.size))
      have hpt := part_calls a5 a1 m5 k5 n1 c1 _ xs w8 (s11.out.below hb11 (Nat.le_refl _)) (q1.out.below B11.out (Nat.le_refl _))
      rw [show decide (gm (cmpTo (eqP ps) xs n1) xs = []) = true from decide_eq_true hsub'.out] at hpt
      have hpt' := Lib.hid hpt
      clear hpt hsm2 hb11 s11
      go_wp2_with fail
      refine hpt'.out.mono ?_
      rintro e w9 ⟨rfl, rfl⟩
      go_wp2
      go_ret
      exact ⟨rfl, hb5.out.trans (B11.out.mono hb5.out.size)⟩

end Go.Proofs.Ytgmnonijhgipbaa

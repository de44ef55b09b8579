/- spec.DrawRunRings. Written by gendrawrun.py. -/
import Derived.Test.YtmkkkhlalacaiaaOps
import Derived.Test.YtmkkkhlalacaiaaUse
import Derived.Deep.RegionHeld3
import Derived.IntWalk
namespace Go.Proofs.Ytmkkkhlalacaiaa
open Go.RowKit
open Go.Proofs.Ytmkkkhlalacaiaa.Rm
set_option linter.unusedVariables false

/-- The kinds of calls from which one is drawn. -/
def kindAt (r : Nat) : ByteArray := match r with
  | 0 => ⟨#[108, 105, 110, 107]⟩
  | 1 => ⟨#[117, 110, 108, 105, 110, 107]⟩
  | 2 => ⟨#[108, 105, 110, 107]⟩
  | 3 => ⟨#[117, 110, 108, 105, 110, 107]⟩
  | 4 => ⟨#[109, 111, 118, 101]⟩
  | 5 => ⟨#[110, 101, 120, 116]⟩
  | 6 => ⟨#[112, 114, 101, 118]⟩
  | 7 => ⟨#[108, 101, 110]⟩
  | 8 => ⟨#[]⟩
  | _ => ⟨#[]⟩
abbrev kindsB : Obj := .cells #[.string ⟨#[108, 105, 110, 107]⟩, .string ⟨#[117, 110, 108, 105, 110, 107]⟩, .string ⟨#[108, 105, 110, 107]⟩, .string ⟨#[117, 110, 108, 105, 110, 107]⟩, .string ⟨#[109, 111, 118, 101]⟩, .string ⟨#[110, 101, 120, 116]⟩, .string ⟨#[112, 114, 101, 118]⟩, .string ⟨#[108, 101, 110]⟩, .string ⟨#[]⟩] 9
theorem kind_cells {w : World} {g : Nat} (h : w.heap[g]? = some (.cells #[.string ⟨#[108, 105, 110, 107]⟩, .string ⟨#[117, 110, 108, 105, 110, 107]⟩, .string ⟨#[108, 105, 110, 107]⟩, .string ⟨#[117, 110, 108, 105, 110, 107]⟩, .string ⟨#[109, 111, 118, 101]⟩, .string ⟨#[110, 101, 120, 116]⟩, .string ⟨#[112, 114, 101, 118]⟩, .string ⟨#[108, 101, 110]⟩, .string ⟨#[]⟩] 9 (0, 0))) : ∀ r, r < 9 → w.cell? ⟨g, r, none⟩ = some (.string (kindAt r)) := by
  intro r hr
  match r, hr with
  | 0, _ => exact blk_cell (l := [_, _, _, _, _, _, _, _, _]) h rfl
  | 1, _ => exact blk_cell (l := [_, _, _, _, _, _, _, _, _]) h rfl
  | 2, _ => exact blk_cell (l := [_, _, _, _, _, _, _, _, _]) h rfl
  | 3, _ => exact blk_cell (l := [_, _, _, _, _, _, _, _, _]) h rfl
  | 4, _ => exact blk_cell (l := [_, _, _, _, _, _, _, _, _]) h rfl
  | 5, _ => exact blk_cell (l := [_, _, _, _, _, _, _, _, _]) h rfl
  | 6, _ => exact blk_cell (l := [_, _, _, _, _, _, _, _, _]) h rfl
  | 7, _ => exact blk_cell (l := [_, _, _, _, _, _, _, _, _]) h rfl
  | 8, _ => exact blk_cell (l := [_, _, _, _, _, _, _, _, _]) h rfl

/-- Sizes and a script were drawn. -/
def DrawnRun (w : World) (e : Ending) (w' : World) : Prop :=
  ∃ a n c xs oa on oc ps, e = .returned (.tuple #[.slice a n c, .slice oa on oc]) ∧ Szs w' a n c xs ∧ RdO w' oa on oc ps ∧ on ≤ 8 ∧ OpsOk ps ∧ Below w.heap.size w w'
/-- What the loop keeps: j calls are still to come. -/
def DrRel (w1 : World) (R : Nat) (ba : Option Addr) (bn bc : Nat) (bs : List Int) (j : Nat) (v : Value) (wr : World) : Prop :=
  ∃ ps p', OwnO 37 w1.heap.size wr v ps ∧ ps.length + j ≤ 8 ∧ OpsOk ps ∧ p' + 10 * j ≤ 100 ∧ Drw wr R ba bn bc bs p' ∧ Save R w1 wr
theorem OwnO.save {E : TypeId} {base R : Nat} {w w' : World} {v : Value} {ps : List OpV} (h : OwnO E base w v ps) (hs : Save R w w') (hR : R < base) : OwnO E base w' v ps :=
  h.keep fun k hk => hs.block k (h.lt hk).2 (by have := (h.lt hk).1; omega)
theorem DrRel.push {w1 wr w' : World} {R : Nat} {ba : Option Addr} {bn bc : Nat} {bs : List Int} {j : Nat} {v v' : Value} {ps : List OpV} {p : OpV} {p' : Nat} (hl : ps.length + (j + 1) ≤ 8) (hok : OpsOk ps) (hp : p.at' ≤ 65535 ∧ p.to ≤ 65535 ∧ -9223372036854775808 ≤ p.n ∧ p.n ≤ 9223372036854775806) (hp' : p' + 10 * j ≤ 100) (hR : R < w1.heap.size) (hba : ∀ ad, ba = some ad → ad.block < w1.heap.size)
    (hd : Drw wr R ba bn bc bs p') (hs : Save R w1 wr) (ho0 : OwnO 37 w1.heap.size wr v ps) (ho : OwnO 37 w1.heap.size w' v' (ps ++ [p])) (hpu : Pushed wr w' v v') : DrRel w1 R ba bn bc bs j v' w' := by
  have hb : Below w1.heap.size wr w' := hpu.below hs.size (fun k hk => (ho0.lt hk).1)
  refine ⟨ps ++ [p], p', ho, by simp; omega, ?_, hp', hd.keep hb hR hba, ⟨hb.os.trans hs.os, hb.tape.trans hs.tape, hb.output.trans hs.output, Nat.le_trans hs.size hb.size, fun k hk hne => (hb.block k hk).trans (hs.block k hk hne)⟩⟩
  intro q hq
  rcases List.mem_append.1 hq with h | h
  · exact hok q h
  · simp at h; subst h; exact hp

theorem op_facts {u : World} {g : Nat} {T : TypeId} {v0 v1 v2 v3 : Value} (h : u.heap[g]? = some (.cells #[v0, v1, v2, v3] T (0, 0))) : u.cell? ⟨g, 0, none⟩ = some v0 ∧ u.cell? ⟨g, 1, none⟩ = some v1 ∧ u.cell? ⟨g, 2, none⟩ = some v2 ∧ u.cell? ⟨g, 3, none⟩ = some v3 ∧ ∀ o, u.frozen? ⟨g, o, none⟩ = false :=
  ⟨blk_cell (l := [_, _, _, _]) h rfl, blk_cell (l := [_, _, _, _]) h rfl, blk_cell (l := [_, _, _, _]) h rfl, blk_cell (l := [_, _, _, _]) h rfl, fun o => blk_free h⟩
theorem op_sets {u : World} {g : Nat} {T : TypeId} {z0 z1 z2 z3 : Value} (v0 v1 v2 v3 : Value) (h : u.heap[g]? = some (.cells #[z0, z1, z2, z3] T (0, 0))) :
    (u.cell? ⟨g, 0, none⟩ = some z0 ∧ u.frozen? ⟨g, 0, none⟩ = false) ∧ ((u.setCell ⟨g, 0, none⟩ v0).cell? ⟨g, 1, none⟩ = some z1 ∧ (u.setCell ⟨g, 0, none⟩ v0).frozen? ⟨g, 1, none⟩ = false) ∧
    (((u.setCell ⟨g, 0, none⟩ v0).setCell ⟨g, 1, none⟩ v1).cell? ⟨g, 2, none⟩ = some z2 ∧ ((u.setCell ⟨g, 0, none⟩ v0).setCell ⟨g, 1, none⟩ v1).frozen? ⟨g, 2, none⟩ = false) ∧
    ((((u.setCell ⟨g, 0, none⟩ v0).setCell ⟨g, 1, none⟩ v1).setCell ⟨g, 2, none⟩ v2).cell? ⟨g, 3, none⟩ = some z3 ∧ (((u.setCell ⟨g, 0, none⟩ v0).setCell ⟨g, 1, none⟩ v1).setCell ⟨g, 2, none⟩ v2).frozen? ⟨g, 3, none⟩ = false) ∧
    ((((u.setCell ⟨g, 0, none⟩ v0).setCell ⟨g, 1, none⟩ v1).setCell ⟨g, 2, none⟩ v2).setCell ⟨g, 3, none⟩ v3).heap[g]? = some (.cells #[v0, v1, v2, v3] T (0, 0)) := by
  have h1 : (u.setCell ⟨g, 0, none⟩ v0).heap[g]? = some (.cells #[v0, z1, z2, z3] T (0, 0)) := blk_set (l := [z0, z1, z2, z3]) h
  have h2 : ((u.setCell ⟨g, 0, none⟩ v0).setCell ⟨g, 1, none⟩ v1).heap[g]? = some (.cells #[v0, v1, z2, z3] T (0, 0)) := blk_set (l := [v0, z1, z2, z3]) h1
  have h3 : (((u.setCell ⟨g, 0, none⟩ v0).setCell ⟨g, 1, none⟩ v1).setCell ⟨g, 2, none⟩ v2).heap[g]? = some (.cells #[v0, v1, v2, z3] T (0, 0)) := blk_set (l := [v0, v1, z2, z3]) h2
  have h4 : ((((u.setCell ⟨g, 0, none⟩ v0).setCell ⟨g, 1, none⟩ v1).setCell ⟨g, 2, none⟩ v2).setCell ⟨g, 3, none⟩ v3).heap[g]? = some (.cells #[v0, v1, v2, v3] T (0, 0)) := blk_set (l := [v0, v1, v2, z3]) h3
  exact ⟨⟨blk_cell (l := [_, _, _, _]) h rfl, blk_free h⟩, ⟨blk_cell (l := [_, _, _, _]) h1 rfl, blk_free h1⟩, ⟨blk_cell (l := [_, _, _, _]) h2 rfl, blk_free h2⟩, ⟨blk_cell (l := [_, _, _, _]) h3 rfl, blk_free h3⟩, h4⟩
theorem kinds_set {u : World} {g k : Nat} (hne : k ≠ g) (v0 v1 v2 v3 : Value) (h : ∀ r, r < 9 → u.cell? ⟨k, r, none⟩ = some (.string (kindAt r))) :
    ∀ r, r < 9 → ((((u.setCell ⟨g, 0, none⟩ v0).setCell ⟨g, 1, none⟩ v1).setCell ⟨g, 2, none⟩ v2).setCell ⟨g, 3, none⟩ v3).cell? ⟨k, r, none⟩ = some (.string (kindAt r)) := by
  intro r hr
  rw [World.cell?_of_block (w := u) (by rw [blk_other hne, blk_other hne, blk_other hne, blk_other hne])]
  exact h r hr
/-- What stays while numbers are drawn for one call. -/
structure PS (w1 : World) (R : Nat) (ba : Option Addr) (bn bc : Nat) (bs : List Int) (v : Value) (ps : List OpV) (q : Nat) (u : World) : Prop where
  drw : Drw u R ba bn bc bs q
  save : Save R w1 u
  own : OwnO 37 w1.heap.size u v ps
theorem PS.next {w1 : World} {R : Nat} {ba : Option Addr} {bn bc : Nat} {bs : List Int} {v : Value} {ps : List OpV} {q q' : Nat} {u u' : World} (h : PS w1 R ba bn bc bs v ps q u) (hR : R < w1.heap.size) (hd : Drw u' R ba bn bc bs q') (hs : Save R u u') : PS w1 R ba bn bc bs v ps q' u' := ⟨hd, h.save.trans hs, h.own.save hs hR⟩
theorem PS.alloc {w1 : World} {R : Nat} {ba : Option Addr} {bn bc : Nat} {bs : List Int} {v : Value} {ps : List OpV} {q : Nat} {u : World} (h : PS w1 R ba bn bc bs v ps q u) (hR : R < w1.heap.size) (hba : ∀ ad, ba = some ad → ad.block < w1.heap.size) (o : Obj) : PS w1 R ba bn bc bs v ps q (u.alloc o) := by
  have hb : Below u.heap.size u (u.alloc o) := (Below.refl _ _).alloc (Nat.le_refl _) _
  have hz := h.save.size
  exact h.next hR (h.drw.keep hb (by omega) (fun ad e => by have := hba ad e; omega)) (Save.of_below hb (Nat.le_refl _))
theorem PS.set {w1 : World} {R : Nat} {ba : Option Addr} {bn bc : Nat} {bs : List Int} {v : Value} {ps : List OpV} {q : Nat} {u : World} (h : PS w1 R ba bn bc bs v ps q u) (hR : R < w1.heap.size) (hba : ∀ ad, ba = some ad → ad.block < w1.heap.size) {g : Nat} (hg : w1.heap.size ≤ g) (hv : v.ownBlock ≠ some g) (k : Nat) (x : Value) : PS w1 R ba bn bc bs v ps q (u.setCell ⟨g, k, none⟩ x) := by
  have hb : Below w1.heap.size u (u.setCell ⟨g, k, none⟩ x) := below_set (Below.refl _ _) hg
  refine ⟨h.drw.keep hb hR hba, ⟨hb.os.trans h.save.os, hb.tape.trans h.save.tape, hb.output.trans h.save.output, Nat.le_trans h.save.size hb.size, fun i hi hne => (hb.block i hi).trans (h.save.block i hi hne)⟩, h.own.keep fun i hi => blk_other fun e => hv (by rw [hi, e])⟩
theorem PS.pick {w1 : World} {R : Nat} {ba : Option Addr} {bn bc : Nat} {bs : List Int} {v : Value} {ps : List OpV} {q : Nat} {u : World} (h : PS w1 R ba bn bc bs v ps q u) (hR : R < w1.heap.size) (hq : q ≤ 1000) (z : Int) (hz : z ≤ 9223372036854775807) :
    Calls Try.prog 29 #[.pointer (some ⟨R, 0, none⟩), .int .i64 z] u fun e u' => ∃ k : Nat, e = .returned (.int .i64 (k : Int)) ∧ ((k : Int) < z ∨ k = 0) ∧ PS w1 R ba bn bc bs v ps (q + 1) u' ∧ Sole R u u' := by
  refine (pick_calls u R ba bn bc bs q z h.drw (by omega) hz).mono ?_
  rintro e u' ⟨k, h1, h2, h3, h4⟩
  exact ⟨k, h1, h2, h.next hR h3 (Save.of_sole h4), h4⟩

set_option maxHeartbeats 1000000 in
theorem drawRun_calls (w : World) (a : Option Addr) (n c : Nat) (bs : List Int) (h : Rd .u8 w a n c bs) (hb : Bytes bs) (hlt : ∀ ad, a = some ad → ad.block < w.heap.size) :
    Calls Try.prog 16 #[.slice a n c] w (DrawnRun w) := by
  have hd := Lib.hid (drw_start h hb hlt)
  have hb1 : Hid (Below w.heap.size w (w.alloc (.cells #[.slice a n c, .int .i64 0] 62))) := (Below.refl _ _).alloc (Nat.le_refl _) _
  have hz1 : Hid ((w.alloc (.cells #[.slice a n c, .int .i64 0] 62)).heap.size = w.heap.size + 1) := by show _ = _; simp
  clear h hb
  go_enter Try.func16, Try.ntmps16
  go_wp2_with fail
  refine (sizes_calls _ w.heap.size a n c bs 0 hd.out (by omega) (fun ad e => by have := hlt ad e; rw [hz1.out]; omega)).mono ?_
  rintro e w1 ⟨a1, n1, c1, xs, p1, rfl, hr1, hn1, hi1, hl1, hp1, hd1, hs1⟩
  have B1 := Lib.hid (hb1.out.trans (hs1.below (Nat.le_refl _) (by rw [hz1.out]; omega)))
  have hsz1 : w.heap.size + 1 ≤ w1.heap.size := by have := hs1.size; rw [hz1.out] at this; exact this
  have hlo : Hid (∀ ad, a1 = some ad → ad.block ≠ w.heap.size ∧ ad.block < w1.heap.size) := fun ad e => by have := hl1 ad e; rw [hz1.out] at this; omega
  have hba : Hid (∀ ad, a = some ad → ad.block < w1.heap.size) := fun ad e => by have := hlt ad e; omega
  have hS1 : Hid (Szs w1 a1 n1 c1 xs) := ⟨hr1, hi1, hn1⟩
  have hd1' := Lib.hid hd1
  have hM := hS1.out.t21
  clear hd hb1 hs1 hl1 hlt hr1 hd1
  -- out, n, bad, k
  have hba2 : Below w1.heap.size w1 (w1.alloc (.cells #[] 37)) := (Below.refl _ _).alloc (Nat.le_refl _) _
  have ho2 := Lib.hid (OwnO.empty 37 w1.heap.size w1 (Nat.le_refl _))
  have hmade := Lib.hid ((hS1.out.below hba2 (Nat.le_refl _)).made _ (Below.refl _ _))
  have hz2 : Hid ((w1.alloc (.cells #[] 37)).heap.size = w1.heap.size + 1) := by show _ = _; simp
  have hd2 := Lib.hid (hd1'.out.keep hba2 (by omega) hba.out)
  have hs2 : Hid (Save w.heap.size w1 (w1.alloc (.cells #[] 37))) := Save.alloc _ _
  clear hba2 hd1'
  go_wp2_with fail
  refine hmade.out.mono ?_
  rintro e w3 ⟨a3, n3, c3, rfl, hr3, hb3⟩
  have ho3 := Lib.hid (ho2.out.below hb3 (Nat.le_refl _))
  have hd3 := Lib.hid (hd2.out.keep hb3 (by rw [hz2.out]; omega) (fun ad e => by have := hba.out ad e; rw [hz2.out]; omega))
  have hs3 := Lib.hid (hs2.out.trans (Save.of_below hb3 (Nat.le_refl _)))
  have hct := count_calls w3 a3 n3 c3 _ hr3 (by rw [cnt_mk]; omega)
  rw [cnt_mk] at hct
  have hct' := Lib.hid hct
  clear hmade ho2 hd2 hs2 hr3 hb3 hct hz2
  generalize tot xs = M at hM hct'
  go_wp2_with fail
  refine hct'.out.mono ?_
  rintro e w' ⟨rfl, rfl⟩
  clear hct'
  go_wp2_with fail
  refine (pick_calls _ w.heap.size a n c bs p1 12 hd3.out (by omega) (by omega)).mono ?_
  rintro e w4 ⟨kb, rfl, _, hd4, hs4⟩
  have ho4 := Lib.hid (ho3.out.save (Save.of_sole hs4) (by omega))
  have hs5 := Lib.hid (hs3.out.trans (Save.of_sole hs4))
  clear ho3 hd3 hs3 hs4
  obtain ⟨bad, hbad⟩ : ∃ bad : Bool, ((kb : Int) == 0) = bad := ⟨_, rfl⟩
  go_wp2_with fail
  refine (pick_calls _ w.heap.size a n c bs (p1 + 1) 9 hd4 (by omega) (by omega)).mono ?_
  rintro e w5 ⟨k0, rfl, hk0, hd5, hs6⟩
  have ho5 := Lib.hid (ho4.out.save (Save.of_sole hs6) (by omega))
  have hs7 := Lib.hid (hs5.out.trans (Save.of_sole hs6))
  have hk8 : k0 ≤ 8 := by omega
  have hd5' := Lib.hid hd5
  clear ho4 hd4 hs5 hs6 hk0 hd5 hbad
  have h0 : Hid (DrRel w1 w.heap.size a n c bs k0 (.slice (some ⟨w1.heap.size, 0, none⟩) 0 0) w5) := ⟨[], p1 + 2, ho5.out, by simp; omega, by intro p hp; simp at hp, by omega, hd5'.out, hs7.out⟩
  clear ho5 hs7 hd5'
  go_wp2
  go_loopw [6, 9] (fun v i wr => ∃ j : Nat, j ≤ 8 ∧ i = .int .i64 (j : Int) ∧ Hid (DrRel w1 w.heap.size a n c bs j v wr)) (fun _ i _ => (intOf i).toNat)
  case atStart => exact ⟨k0, hk8, rfl, h0⟩
  case round =>
    clear h0
    obtain ⟨j, hj, rfl, hrl⟩ := hrel
    obtain ⟨ps, p', ho, hlen, hok, hpp, hd, hs⟩ := hrl.out
    have ho' := Lib.hid ho
    have hok' := Lib.hid hok
    have hd' := Lib.hid hd
    have hs' := Lib.hid hs
    obtain ⟨av, cv, rfl⟩ := ho.form
    clear ho hok hd hs hrl
    by_cases hend : j = 0 ∨ M = 0
    · have hfin : ∀ (Q : Prop), (j = 0 → Q) → (j ≠ 0 → M = 0 → Q) → Q := fun Q h1 h2 => by
        by_cases q : j = 0
        · exact h1 q
        · exact h2 q (by omega)
      clear hend
      refine hfin _ (fun q1 => ?_) (fun q1 q2 => ?_)
      · clear hfin
        subst q1
        obtain ⟨a9, c9, e9, r9⟩ := ho'.out.rd
        cases e9
        have r9' := Lib.hid r9
        have hb9 := Lib.hid (hs'.out.below (B := w.heap.size) (Nat.le_refl _) (by omega))
        have hz9 : Hid (Szs wr a1 n1 c1 xs) := ⟨hS1.out.rd.save hs'.out (fun ad e => (hlo.out ad e).1), hS1.out.small, hS1.out.n3⟩
        clear r9 hd' hs'
        go_wp2
        go_ret2
        exact ⟨_, _, _, xs, _, _, _, ps, rfl, hz9.out, r9'.out, by omega, hok'.out, B1.out.trans (hb9.out.mono (Nat.le_refl _))⟩
      · clear hfin
        subst q2
        have tj : decide (0 < j) = true := by simp; omega
        have tj2 : decide ((0 : Int) < (j : Int)) = true := by simp; omega
        obtain ⟨a9, c9, e9, r9⟩ := ho'.out.rd
        cases e9
        have r9' := Lib.hid r9
        have hb9 := Lib.hid (hs'.out.below (B := w.heap.size) (Nat.le_refl _) (by omega))
        have hz9 : Hid (Szs wr a1 n1 c1 xs) := ⟨hS1.out.rd.save hs'.out (fun ad e => (hlo.out ad e).1), hS1.out.small, hS1.out.n3⟩
        clear r9 hd' hs'
        go_wp2
        go_ret2
        exact ⟨_, _, _, xs, _, _, _, ps, rfl, hz9.out, r9'.out, by omega, hok'.out, B1.out.trans (hb9.out.mono (Nat.le_refl _))⟩
    obtain ⟨i, rfl⟩ : ∃ i, j = i + 1 := ⟨j - 1, by omega⟩
    have hMp : 0 < M := by omega
    clear hend
    have tj : decide ((((i + 1 : Nat)) : Int) > 0) = true := by simp
    have tM : decide (0 < M) = true := by simpa using hMp
    have hszr := hs'.out.size
    have hRl : w.heap.size < w1.heap.size := by omega
    have hPr : PS w1 w.heap.size a n c bs (.slice av ps.length cv) ps p' wr := ⟨hd'.out, hs'.out, ho'.out⟩
    have hPk := hPr.alloc hRl hba.out kindsB
    have hP0 : PS w1 w.heap.size a n c bs (.slice av ps.length cv) ps p' (wr.alloc kindsB).drew := ⟨⟨hPk.drw.blk, hPk.drw.rd, hPk.drw.lo, hPk.drw.off⟩, ⟨hPk.save.os, hPk.save.tape, hPk.save.output, hPk.save.size, hPk.save.block⟩, hPk.own.drew⟩
    have hPka := hPk.alloc hRl hba.out (.cells #[.string ⟨#[]⟩, .int .u16 0, .int .u16 0, .int .i64 0] 37)
    have hP0a : PS w1 w.heap.size a n c bs (.slice av ps.length cv) ps p' ((wr.alloc kindsB).alloc (.cells #[.string ⟨#[]⟩, .int .u16 0, .int .u16 0, .int .i64 0] 37)).drew := ⟨⟨hPka.drw.blk, hPka.drw.rd, hPka.drw.lo, hPka.drw.off⟩, ⟨hPka.save.os, hPka.save.tape, hPka.save.output, hPka.save.size, hPka.save.block⟩, hPka.own.drew⟩
    have hK0 : ∀ r, r < 9 → (wr.alloc kindsB).drew.cell? ⟨wr.heap.size, r, none⟩ = some (.string (kindAt r)) := kind_cells (heap_alloc_new wr _)
    have hKA : Hid (∀ (u : World) (o : Obj), wr.heap.size < u.heap.size → (∀ r, r < 9 → u.cell? ⟨wr.heap.size, r, none⟩ = some (.string (kindAt r))) → ∀ r, r < 9 → (u.alloc o).cell? ⟨wr.heap.size, r, none⟩ = some (.string (kindAt r))) := by
      intro u o hu h r hr
      rw [((Below.refl u.heap.size u).alloc (Nat.le_refl _) o).cell (p := ⟨wr.heap.size, r, none⟩) hu]; exact h r hr
    have hSk : Hid (∀ u u' : World, (∀ r, r < 9 → u.cell? ⟨wr.heap.size, r, none⟩ = some (.string (kindAt r))) → Sole w.heap.size u u' → ∀ r, r < 9 → u'.cell? ⟨wr.heap.size, r, none⟩ = some (.string (kindAt r))) := by
      intro u u' hu hso r hr
      rw [World.cell?_of_block (w := u) (hso.block wr.heap.size (by omega))]; exact hu r hr
    have hsz0 : Hid ((wr.alloc kindsB).drew.heap.size = wr.heap.size + 1) := by show (wr.heap.push _).size = _; simp
    have hszw : wr.heap.size < (wr.alloc kindsB).drew.heap.size := by show _ < (wr.heap.push _).size; simp
    have hszw2 : wr.heap.size < (wr.alloc kindsB).heap.size := by show _ < (wr.heap.push _).size; simp
    have hnew0 : Hid (((wr.alloc kindsB).alloc (.cells #[.string ⟨#[]⟩, .int .u16 0, .int .u16 0, .int .i64 0] 37)).drew.heap[wr.heap.size + 1]? = some (.cells #[.string ⟨#[]⟩, .int .u16 0, .int .u16 0, .int .i64 0] 37 (0, 0))) := by
      have := heap_alloc_new (wr.alloc kindsB) (.cells #[.string ⟨#[]⟩, .int .u16 0, .int .u16 0, .int .i64 0] 37)
      rw [show (wr.alloc kindsB).heap.size = wr.heap.size + 1 by show (wr.heap.push _).size = _; simp] at this
      exact this
    have hK0a : ∀ r, r < 9 → ((wr.alloc kindsB).alloc (.cells #[.string ⟨#[]⟩, .int .u16 0, .int .u16 0, .int .i64 0] 37)).drew.cell? ⟨wr.heap.size, r, none⟩ = some (.string (kindAt r)) := hKA.out (wr.alloc kindsB) _ hszw2 hK0
    clear hPk hPka hPr ho' hd' hs'
    go_wp2
    go_region_held3 (fun u => ∀ r, r < 9 → u.cell? ⟨wr.heap.size, r, none⟩ = some (.string (kindAt r))) (first | with_reducible assumption | with_reducible exact hKF | with_reducible exact hKA.out x4 _ (by omega) hK4 | with_reducible exact hKA.out x3 _ (by omega) hK3 | with_reducible exact hKA.out x2 _ (by omega) hK2 | with_reducible exact hKA.out x1 _ (by omega) hK1)
      (first
        | (go_at_call 29; ((with_reducible refine (PS.pick (u := x3) hP3 hRl (by omega) 8 (by omega)).mono ?_); rintro e x4 ⟨r4, rfl, hr4, hP4, hso4⟩; have hr4b : r4 ≤ 7 := (by omega); have hsz4 : x3.heap.size ≤ x4.heap.size := Nat.le_of_eq hso4.size.symm; have hK4 := hSk.out _ _ hK3 hso4; (try have hz4 := (hso4.block _ hzR).trans hz3); (try (have fz := op_sets (.string (kindAt r1)) (.int .u16 (r2 : Int)) (.int .u16 (r3 : Int)) (.int .i64 (r4 : Int)) hz4; obtain ⟨⟨_, fe0⟩, ⟨_, fe1⟩, ⟨_, fe2⟩, ⟨_, fe3⟩, hzF0⟩ := fz; have hzF := Lib.hid hzF0; clear hzF0; have fy := op_facts hz4; obtain ⟨fy0, fy1, fy2, fy3, _⟩ := fy; have hzQ := Lib.hid hz4; clear hz4; have hKF := kinds_set hzN (.string (kindAt r1)) (.int .u16 (r2 : Int)) (.int .u16 (r3 : Int)) (.int .i64 (r4 : Int)) hK4))))
        | (go_at_call 29; ((with_reducible refine (PS.pick (u := x3.alloc (.cells #[.string ⟨#[]⟩, .int .u16 0, .int .u16 0, .int .i64 0] 37)) (hP3.alloc hRl hba.out _) hRl (by omega) 8 (by omega)).mono ?_); rintro e x4 ⟨r4, rfl, hr4, hP4, hso4⟩; have hr4b : r4 ≤ 7 := (by omega); have hsz4 : x3.heap.size ≤ x4.heap.size := (by rw [hso4.size]; simp); have hK4 := hSk.out _ _ (hKA.out x3 _ (by omega) hK3) hso4; have hzR : x3.heap.size ≠ w.heap.size := (by have := hP3.save.size; omega); have hz4 := (hso4.block _ hzR).trans (heap_alloc_new x3 _); have hzN : wr.heap.size ≠ x3.heap.size := (by omega); have hzB : w1.heap.size ≤ x3.heap.size := (by have := hP3.save.size; omega); have hzV : (Value.slice av ps.length cv).ownBlock ≠ some (x3.heap.size) := (fun e => by have := (hP3.own.lt e).2; omega); (try (have fz := op_sets (.string (kindAt r1)) (.int .u16 (r2 : Int)) (.int .u16 (r3 : Int)) (.int .i64 (r4 : Int)) hz4; obtain ⟨⟨_, fe0⟩, ⟨_, fe1⟩, ⟨_, fe2⟩, ⟨_, fe3⟩, hzF0⟩ := fz; have hzF := Lib.hid hzF0; clear hzF0; have fy := op_facts hz4; obtain ⟨fy0, fy1, fy2, fy3, _⟩ := fy; have hzQ := Lib.hid hz4; clear hz4; have hKF := kinds_set hzN (.string (kindAt r1)) (.int .u16 (r2 : Int)) (.int .u16 (r3 : Int)) (.int .i64 (r4 : Int)) hK4))))
        | (go_at_call 29; ((with_reducible refine (PS.pick (u := x2) hP2 hRl (by omega) (M : Int) (by omega)).mono ?_); rintro e x3 ⟨r3, rfl, hr3, hP3, hso3⟩; have hr3b : r3 ≤ 21 := (by omega); have hw3 : IntKind.u16.wrap (r3 : Int) = (r3 : Int) := IntWalk.u16_in _ (by omega); have hsz3 : x2.heap.size ≤ x3.heap.size := Nat.le_of_eq hso3.size.symm; have hK3 := hSk.out _ _ hK2 hso3; (try have hz3 := (hso3.block _ hzR).trans hz2)))
        | (go_at_call 29; ((with_reducible refine (PS.pick (u := x2.alloc (.cells #[.string ⟨#[]⟩, .int .u16 0, .int .u16 0, .int .i64 0] 37)) (hP2.alloc hRl hba.out _) hRl (by omega) (M : Int) (by omega)).mono ?_); rintro e x3 ⟨r3, rfl, hr3, hP3, hso3⟩; have hr3b : r3 ≤ 21 := (by omega); have hw3 : IntKind.u16.wrap (r3 : Int) = (r3 : Int) := IntWalk.u16_in _ (by omega); have hsz3 : x2.heap.size ≤ x3.heap.size := (by rw [hso3.size]; simp); have hK3 := hSk.out _ _ (hKA.out x2 _ (by omega) hK2) hso3; have hzR : x2.heap.size ≠ w.heap.size := (by have := hP2.save.size; omega); have hz3 := (hso3.block _ hzR).trans (heap_alloc_new x2 _); have hzN : wr.heap.size ≠ x2.heap.size := (by omega); have hzB : w1.heap.size ≤ x2.heap.size := (by have := hP2.save.size; omega); have hzV : (Value.slice av ps.length cv).ownBlock ≠ some (x2.heap.size) := (fun e => by have := (hP2.own.lt e).2; omega)))
        | (go_at_call 29; ((with_reducible refine (PS.pick (u := x1) hP1 hRl (by omega) (M : Int) (by omega)).mono ?_); rintro e x2 ⟨r2, rfl, hr2, hP2, hso2⟩; have hr2b : r2 ≤ 21 := (by omega); have hw2 : IntKind.u16.wrap (r2 : Int) = (r2 : Int) := IntWalk.u16_in _ (by omega); have hsz2 : x1.heap.size ≤ x2.heap.size := Nat.le_of_eq hso2.size.symm; have hK2 := hSk.out _ _ hK1 hso2; (try have hz2 := (hso2.block _ hzR).trans hz1)))
        | (go_at_call 29; ((with_reducible refine (PS.pick (u := x1.alloc (.cells #[.string ⟨#[]⟩, .int .u16 0, .int .u16 0, .int .i64 0] 37)) (hP1.alloc hRl hba.out _) hRl (by omega) (M : Int) (by omega)).mono ?_); rintro e x2 ⟨r2, rfl, hr2, hP2, hso2⟩; have hr2b : r2 ≤ 21 := (by omega); have hw2 : IntKind.u16.wrap (r2 : Int) = (r2 : Int) := IntWalk.u16_in _ (by omega); have hsz2 : x1.heap.size ≤ x2.heap.size := (by rw [hso2.size]; simp); have hK2 := hSk.out _ _ (hKA.out x1 _ (by omega) hK1) hso2; have hzR : x1.heap.size ≠ w.heap.size := (by have := hP1.save.size; omega); have hz2 := (hso2.block _ hzR).trans (heap_alloc_new x1 _); have hzN : wr.heap.size ≠ x1.heap.size := (by omega); have hzB : w1.heap.size ≤ x1.heap.size := (by have := hP1.save.size; omega); have hzV : (Value.slice av ps.length cv).ownBlock ≠ some (x1.heap.size) := (fun e => by have := (hP1.own.lt e).2; omega)))
        | (go_at_call 29; ((with_reducible refine (PS.pick (u := (wr.alloc kindsB).drew) hP0 hRl (by omega) 9 (by omega)).mono ?_); rintro e x1 ⟨r1, rfl, hr1, hP1, hso1⟩; have hr9 : r1 < 9 := (by omega); have hr9i : (r1 : Int) < 9 := (by omega); have hsz1 : (wr.alloc kindsB).drew.heap.size ≤ x1.heap.size := Nat.le_of_eq hso1.size.symm; have hK1 := hSk.out _ _ hK0 hso1))
        | (go_at_call 29; ((with_reducible refine (PS.pick (u := ((wr.alloc kindsB).alloc (.cells #[.string ⟨#[]⟩, .int .u16 0, .int .u16 0, .int .i64 0] 37)).drew) (hP0a) hRl (by omega) 9 (by omega)).mono ?_); rintro e x1 ⟨r1, rfl, hr1, hP1, hso1⟩; have hr9 : r1 < 9 := (by omega); have hr9i : (r1 : Int) < 9 := (by omega); have hsz1 : (wr.alloc kindsB).drew.heap.size ≤ x1.heap.size := (by rw [hso1.size]; simp); have hK1 := hSk.out _ _ (hK0a) hso1; have hzR : wr.heap.size + 1 ≠ w.heap.size := (by have := hP0.save.size; have e0 := hsz0.out; omega); have hz1 := (hso1.block _ hzR).trans (hnew0.out); have hzN : wr.heap.size ≠ wr.heap.size + 1 := (by omega); have hzB : w1.heap.size ≤ wr.heap.size + 1 := (by have := hP0.save.size; have e0 := hsz0.out; omega); have hzV : (Value.slice av ps.length cv).ownBlock ≠ some (wr.heap.size + 1) := (fun e => by have := (hP0.own.lt e).2; have e0 := hsz0.out; omega))))
    all_goals
      clear hw2 hw3
      first
        | (have hop : ((((x4.setCell ⟨x3.heap.size, 0, none⟩ (.string (kindAt r1))).setCell ⟨x3.heap.size, 1, none⟩ (.int .u16 (r2 : Int))).setCell ⟨x3.heap.size, 2, none⟩ (.int .u16 (r3 : Int))).setCell ⟨x3.heap.size, 3, none⟩ (.int .i64 (r4 : Int))).heap[x3.heap.size]? = some (.cells #[.string (kindAt r1), .int .u16 (r2 : Int), .int .u16 (r3 : Int), .int .i64 (r4 : Int)] 37 (0, 0)) := (by with_reducible exact hzF.out); have hP5 := (((hP4.set hRl hba.out hzB hzV 0 (.string (kindAt r1))).set hRl hba.out hzB hzV 1 (.int .u16 (r2 : Int))).set hRl hba.out hzB hzV 2 (.int .u16 (r3 : Int))).set hRl hba.out hzB hzV 3 (.int .i64 (r4 : Int)); have hgB := hzB; have hgV := hzV; generalize hWW : ((((x4.setCell ⟨x3.heap.size, 0, none⟩ (.string (kindAt r1))).setCell ⟨x3.heap.size, 1, none⟩ (.int .u16 (r2 : Int))).setCell ⟨x3.heap.size, 2, none⟩ (.int .u16 (r3 : Int))).setCell ⟨x3.heap.size, 3, none⟩ (.int .i64 (r4 : Int))) = W at hP5 hop ⊢; clear hWW; generalize hGG : x3.heap.size = g at hop hgB hgV ⊢; clear hGG)
        | (have hop : ((((x4.setCell ⟨x2.heap.size, 0, none⟩ (.string (kindAt r1))).setCell ⟨x2.heap.size, 1, none⟩ (.int .u16 (r2 : Int))).setCell ⟨x2.heap.size, 2, none⟩ (.int .u16 (r3 : Int))).setCell ⟨x2.heap.size, 3, none⟩ (.int .i64 (r4 : Int))).heap[x2.heap.size]? = some (.cells #[.string (kindAt r1), .int .u16 (r2 : Int), .int .u16 (r3 : Int), .int .i64 (r4 : Int)] 37 (0, 0)) := (by with_reducible exact hzF.out); have hP5 := (((hP4.set hRl hba.out hzB hzV 0 (.string (kindAt r1))).set hRl hba.out hzB hzV 1 (.int .u16 (r2 : Int))).set hRl hba.out hzB hzV 2 (.int .u16 (r3 : Int))).set hRl hba.out hzB hzV 3 (.int .i64 (r4 : Int)); have hgB := hzB; have hgV := hzV; generalize hWW : ((((x4.setCell ⟨x2.heap.size, 0, none⟩ (.string (kindAt r1))).setCell ⟨x2.heap.size, 1, none⟩ (.int .u16 (r2 : Int))).setCell ⟨x2.heap.size, 2, none⟩ (.int .u16 (r3 : Int))).setCell ⟨x2.heap.size, 3, none⟩ (.int .i64 (r4 : Int))) = W at hP5 hop ⊢; clear hWW; generalize hGG : x2.heap.size = g at hop hgB hgV ⊢; clear hGG)
        | (have hop : ((((x4.setCell ⟨x1.heap.size, 0, none⟩ (.string (kindAt r1))).setCell ⟨x1.heap.size, 1, none⟩ (.int .u16 (r2 : Int))).setCell ⟨x1.heap.size, 2, none⟩ (.int .u16 (r3 : Int))).setCell ⟨x1.heap.size, 3, none⟩ (.int .i64 (r4 : Int))).heap[x1.heap.size]? = some (.cells #[.string (kindAt r1), .int .u16 (r2 : Int), .int .u16 (r3 : Int), .int .i64 (r4 : Int)] 37 (0, 0)) := (by with_reducible exact hzF.out); have hP5 := (((hP4.set hRl hba.out hzB hzV 0 (.string (kindAt r1))).set hRl hba.out hzB hzV 1 (.int .u16 (r2 : Int))).set hRl hba.out hzB hzV 2 (.int .u16 (r3 : Int))).set hRl hba.out hzB hzV 3 (.int .i64 (r4 : Int)); have hgB := hzB; have hgV := hzV; generalize hWW : ((((x4.setCell ⟨x1.heap.size, 0, none⟩ (.string (kindAt r1))).setCell ⟨x1.heap.size, 1, none⟩ (.int .u16 (r2 : Int))).setCell ⟨x1.heap.size, 2, none⟩ (.int .u16 (r3 : Int))).setCell ⟨x1.heap.size, 3, none⟩ (.int .i64 (r4 : Int))) = W at hP5 hop ⊢; clear hWW; generalize hGG : x1.heap.size = g at hop hgB hgV ⊢; clear hGG)
        | (have hop : ((((x4.setCell ⟨(wr.heap.size + 1), 0, none⟩ (.string (kindAt r1))).setCell ⟨(wr.heap.size + 1), 1, none⟩ (.int .u16 (r2 : Int))).setCell ⟨(wr.heap.size + 1), 2, none⟩ (.int .u16 (r3 : Int))).setCell ⟨(wr.heap.size + 1), 3, none⟩ (.int .i64 (r4 : Int))).heap[(wr.heap.size + 1)]? = some (.cells #[.string (kindAt r1), .int .u16 (r2 : Int), .int .u16 (r3 : Int), .int .i64 (r4 : Int)] 37 (0, 0)) := (by with_reducible exact hzF.out); have hP5 := (((hP4.set hRl hba.out hzB hzV 0 (.string (kindAt r1))).set hRl hba.out hzB hzV 1 (.int .u16 (r2 : Int))).set hRl hba.out hzB hzV 2 (.int .u16 (r3 : Int))).set hRl hba.out hzB hzV 3 (.int .i64 (r4 : Int)); have hgB := hzB; have hgV := hzV; generalize hWW : ((((x4.setCell ⟨(wr.heap.size + 1), 0, none⟩ (.string (kindAt r1))).setCell ⟨(wr.heap.size + 1), 1, none⟩ (.int .u16 (r2 : Int))).setCell ⟨(wr.heap.size + 1), 2, none⟩ (.int .u16 (r3 : Int))).setCell ⟨(wr.heap.size + 1), 3, none⟩ (.int .i64 (r4 : Int))) = W at hP5 hop ⊢; clear hWW; generalize hGG : (wr.heap.size + 1) = g at hop hgB hgV ⊢; clear hGG)
        | (have hP5 := hP4.alloc hRl hba.out (.cells #[.string (kindAt r1), .int .u16 (r2 : Int), .int .u16 (r3 : Int), .int .i64 (r4 : Int)] 37); have hop := heap_alloc_new x4 (.cells #[.string (kindAt r1), .int .u16 (r2 : Int), .int .u16 (r3 : Int), .int .i64 (r4 : Int)] 37); have hgB := hP4.save.size; have hgV : (Value.slice av ps.length cv).ownBlock ≠ some x4.heap.size := (fun e => by have := (hP4.own.lt e).2; omega); generalize hWW : x4.alloc (.cells #[.string (kindAt r1), .int .u16 (r2 : Int), .int .u16 (r3 : Int), .int .i64 (r4 : Int)] 37) = W at hP5 hop ⊢; clear hWW; generalize hGG : x4.heap.size = g at hop hgB hgV ⊢; clear hGG)
    all_goals
      have hlenB : ps.length ≤ 8 := by omega
      cases bad with
      | false =>
        obtain ⟨c0, c1, c2, c3, _⟩ := op_facts hop
        have hown := hP5.own
        have hPn' := Lib.hid hP5
        have hsz9 := hP5.save.size
        go_wp2_with (first
          | (at_builtin; refine wpl_pushO (w := W) rfl (.tmp 66) (.tmp 68) 26 37 rfl Try.underlying26 infoSOp rfl w1.heap.size _ _ [⟨kindAt r1, r2, r3, (r4 : Int)⟩] 1 #[.string (kindAt r1), .int .u16 ((r2 : Nat) : Int), .int .u16 ((r3 : Nat) : Int), .int .i64 ((r4 : Int))] rfl rfl rfl (by simp [Act.eval]) hown (by unfold maxLen; omega) (by omega) hsz9 ?_))
        intro v9 w9 o9 p9
        have hN : Hid (DrRel w1 w.heap.size a n c bs i v9 w9) := DrRel.push (p := ⟨kindAt r1, r2, r3, (r4 : Int)⟩) hlen hok'.out (by simp only; omega) (by omega) hRl hba.out hPn'.out.drw hPn'.out.save hPn'.out.own o9 p9
        clear o9 p9 hown c0 c1 c2 c3
        go_wp2
        go_roundw
        case rel => exact ⟨i, by omega, by go_num, hN⟩
        case measure => simp [intOf]
      | true =>
        go_wp2_with fail
        refine (PS.pick hP5 hRl (by omega) 4 (by omega)).mono ?_
        rintro e y1 ⟨r5, rfl, hr5, hP6, hs6⟩
        have hop6 := (hs6.block g (by omega)).trans hop
        clear hop hP5 hs6 hr5
        by_cases hz5 : r5 = 0
        · have t5 : ((r5 : Int) == 0) = true := by simp [hz5]
          have hz5' := Lib.hid hz5
          clear hz5
          have hat := Lib.hid (at_calls y1 w.heap.size a n c bs _ a1 n1 c1 xs hP6.drw (by omega) (fun ad e => by have := hba.out ad e; have := hP6.save.size; omega) (hS1.out.rd.save hP6.save (fun ad e => (hlo.out ad e).1)) hS1.out.n3 hS1.out.small)
          have hP6' := Lib.hid hP6
          have hop6' := Lib.hid hop6
          clear hP6 hop6
          go_wp2_with fail
          refine hat.out.mono ?_
          rintro e y2 ⟨m5, p5, rfl, hm5, hp5, hd7, hs7⟩
          have hP7 := hP6'.out.next hRl hd7 hs7
          have hop7 := (hs7.block g (blk_lt hop6'.out) (by omega)).trans hop6'.out
          obtain ⟨_, c1, _, _, f1⟩ := op_facts hop7
          have f1' := f1 1
          have hop8 : Hid ((y2.setCell ⟨g, 1, none⟩ (.int .u16 (m5 : Int))).heap[g]? = some (.cells #[.string (kindAt r1), .int .u16 (m5 : Int), .int .u16 (r3 : Int), .int .i64 (r4 : Int)] 37 (0, 0))) := blk_set (l := [.string (kindAt r1), .int .u16 (r2 : Int), .int .u16 (r3 : Int), .int .i64 (r4 : Int)]) hop7
          have hP8 := Lib.hid (hP7.set hRl hba.out hgB hgV 1 (.int .u16 (m5 : Int)))
          have hst := Lib.hid (steps_calls (y2.setCell ⟨g, 1, none⟩ (.int .u16 (m5 : Int))) w.heap.size a n c bs p5 hP8.out.drw (by omega) (fun ad e => by have := hba.out ad e; have := hP8.out.save.size; omega))
          clear hP7 hop7 hd7 hs7 f1 hat hP6' hop6'
          go_wp2_with fail
          refine hst.out.mono ?_
          rintro e y3 ⟨z5, p6, rfl, hz6, hp6, hd9, hs9⟩
          have hP9 := hP8.out.next hRl hd9 hs9
          have hop9 := (hs9.block g (blk_lt hop8.out) (by omega)).trans hop8.out
          obtain ⟨_, _, _, c3x, f3x⟩ := op_facts hop9
          have f3' := f3x 3
          have hop10 : (y3.setCell ⟨g, 3, none⟩ (.int .i64 z5)).heap[g]? = some (.cells #[.string (kindAt r1), .int .u16 (m5 : Int), .int .u16 (r3 : Int), .int .i64 z5] 37 (0, 0)) := blk_set (l := [.string (kindAt r1), .int .u16 (m5 : Int), .int .u16 (r3 : Int), .int .i64 (r4 : Int)]) hop9
          have hP10 := hP9.set hRl hba.out hgB hgV 3 (.int .i64 z5)
          clear hP9 hop9 hd9 hs9 hst hP8 hop8 c1 f1' f3x
          obtain ⟨c0, c1, c2, c3, _⟩ := op_facts hop10
          have hown := hP10.own
          have hPn' := Lib.hid hP10
          have hsz9 := hP10.save.size
          go_wp2_with (first
            | (at_builtin; refine wpl_pushO (w := y3.setCell ⟨g, 3, none⟩ (.int .i64 z5)) rfl (.tmp 66) (.tmp 68) 26 37 rfl Try.underlying26 infoSOp rfl w1.heap.size _ _ [⟨kindAt r1, m5, r3, z5⟩] 1 #[.string (kindAt r1), .int .u16 ((m5 : Nat) : Int), .int .u16 ((r3 : Nat) : Int), .int .i64 (z5)] rfl rfl rfl (by simp [Act.eval]) hown (by unfold maxLen; omega) (by omega) hsz9 ?_))
          intro v9 w9 o9 p9
          have hN : Hid (DrRel w1 w.heap.size a n c bs i v9 w9) := DrRel.push (p := ⟨kindAt r1, m5, r3, z5⟩) hlen hok'.out (by simp only; omega) (by omega) hRl hba.out hPn'.out.drw hPn'.out.save hPn'.out.own o9 p9
          clear o9 p9 hown c0 c1 c2 c3
          go_wp2
          go_roundw
          case rel => exact ⟨i, by omega, by go_num, hN⟩
          case measure => simp [intOf]
        · have t5 : ((r5 : Int) == 0) = false := by simp [hz5]
          clear hz5
          obtain ⟨c0, c1, c2, c3, _⟩ := op_facts hop6
          have hown := hP6.own
          have hPn' := Lib.hid hP6
          have hsz9 := hP6.save.size
          go_wp2_with (first
            | (at_builtin; refine wpl_pushO (w := y1) rfl (.tmp 66) (.tmp 68) 26 37 rfl Try.underlying26 infoSOp rfl w1.heap.size _ _ [⟨kindAt r1, r2, r3, (r4 : Int)⟩] 1 #[.string (kindAt r1), .int .u16 ((r2 : Nat) : Int), .int .u16 ((r3 : Nat) : Int), .int .i64 ((r4 : Int))] rfl rfl rfl (by simp [Act.eval]) hown (by unfold maxLen; omega) (by omega) hsz9 ?_))
          intro v9 w9 o9 p9
          have hN : Hid (DrRel w1 w.heap.size a n c bs i v9 w9) := DrRel.push (p := ⟨kindAt r1, r2, r3, (r4 : Int)⟩) hlen hok'.out (by simp only; omega) (by omega) hRl hba.out hPn'.out.drw hPn'.out.save hPn'.out.own o9 p9
          clear o9 p9 hown c0 c1 c2 c3
          go_wp2
          go_roundw
          case rel => exact ⟨i, by omega, by go_num, hN⟩
          case measure => simp [intOf]

end Go.Proofs.Ytmkkkhlalacaiaa

/- (*Ring).Link and (*Ring).Unlink. -/
import Derived.Test.YtmkkkhlalacaiaaMove
namespace Go.Proofs.Ytmkkkhlalacaiaa
open Go.RowKit
open Go.Proofs.Ytmkkkhlalacaiaa.Rm
set_option linter.unusedVariables false

/-- Elements that are linked stay so. -/
def Stay (w w' : World) (Bk : Nat → Nat) (N : Nat) (nx pv : Nat → Nat) (val : Nat → Value) : Prop := ∀ k, k < N → Live w Bk nx pv val k → Live w' Bk nx pv val k

/-- What Prev comes to, with what it leaves alone. -/
def PrevPost (w : World) (Bk : Nat → Nat) (N : Nat) (nx pv : Nat → Nat) (val : Nat → Value) (i j : Nat) (e : Ending) (w' : World) : Prop :=
  e = .returned (ptr (Bk j)) ∧ Rg w' Bk N nx pv val ∧ Live w' Bk nx pv val i ∧ RSame Bk N w w' ∧ Stay w w' Bk N nx pv val

theorem init_stay (w : World) (Bk : Nat → Nat) (N : Nat) (nx pv : Nat → Nat) (val : Nat → Value) (i : Nat) (h : Rg w Bk N nx pv val) (hi : i < N) (hb : Bare w Bk nx pv val i) :
    Calls Try.prog 38 #[ptr (Bk i)] w (PrevPost w Bk N nx pv val i i) := by
  have hI := Lib.hid (h.init hi hb)
  have hS := Lib.hid ((RSame.set (Bk := Bk) w hi 0 (ptr (Bk i))).trans (RSame.set (Bk := Bk) _ hi 1 (ptr (Bk i))))
  have hT : Hid (Stay w ((w.setCell ⟨Bk i, 0, none⟩ (ptr (Bk i))).setCell ⟨Bk i, 1, none⟩ (ptr (Bk i))) Bk N nx pv val) := by
    intro k hk hl
    by_cases e : k = i
    · subst e; exact hI.out.2
    · have hne : Bk k ≠ Bk i := fun q => e (h.inj k i hk hi q)
      unfold Live; rw [blk_other hne, blk_other hne]; exact hl
  have c0 : w.cell? ⟨Bk i, 0, none⟩ = some (.pointer none) := blk_cell hb.2.2 rfl
  have c1 : w.cell? ⟨Bk i, 1, none⟩ = some (.pointer none) := blk_cell hb.2.2 rfl
  have f0 : w.frozen? ⟨Bk i, 0, none⟩ = false := blk_free hb.2.2
  have f1 : (w.setCell ⟨Bk i, 0, none⟩ (ptr (Bk i))).frozen? ⟨Bk i, 1, none⟩ = false := blk_free (blk_set hb.2.2)
  clear hb
  go_enter Try.func38, Try.ntmps38
  go_wp2
  go_ret
  exact ⟨rfl, hI.out.1, hI.out.2, hS.out, hT.out⟩

theorem prev_stay (w : World) (Bk : Nat → Nat) (N : Nat) (nx pv : Nat → Nat) (val : Nat → Value) (i : Nat) (h : Rg w Bk N nx pv val) (hi : i < N) :
    Calls Try.prog 33 #[ptr (Bk i)] w (PrevPost w Bk N nx pv val i (pv i)) := by
  rcases h.cell i hi with hl | hb
  · have c0 := hl.c0
    have c1 := hl.c1
    have hl' := Lib.hid hl
    clear hl
    go_enter Try.func33, Try.ntmps33
    go_wp2
    go_ret
    exact ⟨rfl, h, hl'.out, RSame.refl _ _ _, fun k _ q => q⟩
  · have c0 : w.cell? ⟨Bk i, 0, none⟩ = some (.pointer none) := blk_cell hb.2.2 rfl
    have hb' := Lib.hid hb
    clear hb
    go_enter Try.func33, Try.ntmps33
    go_wp2_with fail
    refine (init_stay w Bk N nx pv val i h hi hb'.out).mono ?_
    rintro e w1 ⟨rfl, h1, h2, h3, h4⟩
    clear c0
    go_wp2
    go_ret
    exact ⟨by rw [hb'.out.2.1]; rfl, h1, h2, h3, h4⟩

/-- All elements lie in memory, linked or bare. -/
def Lies (w : World) (Bk : Nat → Nat) (N : Nat) (nx pv : Nat → Nat) (val : Nat → Value) : Prop := ∀ k, k < N → Live w Bk nx pv val k ∨ Bare w Bk nx pv val k
/-- A next element is set. -/
theorem set_next {w : World} {Bk : Nat → Nat} {N : Nat} {nx pv : Nat → Nat} {val : Nat → Value} (hj : ∀ i j, i < N → j < N → Bk i = Bk j → i = j) (h : Lies w Bk N nx pv val) {i : Nat} (hi : i < N) (j : Nat) (hl : Live w Bk nx pv val i) :
    Lies (w.setCell ⟨Bk i, 0, none⟩ (ptr (Bk j))) Bk N (upd nx i j) pv val ∧ ∀ k, k < N → Live w Bk nx pv val k → Live (w.setCell ⟨Bk i, 0, none⟩ (ptr (Bk j))) Bk (upd nx i j) pv val k := by
  have hi' : Live (w.setCell ⟨Bk i, 0, none⟩ (ptr (Bk j))) Bk (upd nx i j) pv val i := by
    have := blk_set (o := 0) (v := ptr (Bk j)) hl
    unfold Live; rw [this, upd_same]; rfl
  have hL : ∀ k, k < N → Live w Bk nx pv val k → Live (w.setCell ⟨Bk i, 0, none⟩ (ptr (Bk j))) Bk (upd nx i j) pv val k := by
    intro k hk q
    by_cases e : k = i
    · subst e; exact hi'
    · have hne : Bk k ≠ Bk i := fun q => e (hj k i hk hi q)
      unfold Live; rw [blk_other hne, upd_ne _ e]; exact q
  refine ⟨fun k hk => ?_, hL⟩
  by_cases e : k = i
  · subst e; exact .inl hi'
  · refine (h k hk).imp (hL k hk) (fun ⟨a, b, q⟩ => ⟨by rw [upd_ne _ e]; exact a, b, ?_⟩)
    have hne : Bk k ≠ Bk i := fun q => e (hj k i hk hi q)
    rw [blk_other hne]; exact q
theorem set_prev {w : World} {Bk : Nat → Nat} {N : Nat} {nx pv : Nat → Nat} {val : Nat → Value} (hj : ∀ i j, i < N → j < N → Bk i = Bk j → i = j) (h : Lies w Bk N nx pv val) {i : Nat} (hi : i < N) (j : Nat) (hl : Live w Bk nx pv val i) :
    Lies (w.setCell ⟨Bk i, 1, none⟩ (ptr (Bk j))) Bk N nx (upd pv i j) val ∧ ∀ k, k < N → Live w Bk nx pv val k → Live (w.setCell ⟨Bk i, 1, none⟩ (ptr (Bk j))) Bk nx (upd pv i j) val k := by
  have hi' : Live (w.setCell ⟨Bk i, 1, none⟩ (ptr (Bk j))) Bk nx (upd pv i j) val i := by
    have := blk_set (o := 1) (v := ptr (Bk j)) hl
    unfold Live; rw [this, upd_same]; rfl
  have hL : ∀ k, k < N → Live w Bk nx pv val k → Live (w.setCell ⟨Bk i, 1, none⟩ (ptr (Bk j))) Bk nx (upd pv i j) val k := by
    intro k hk q
    by_cases e : k = i
    · subst e; exact hi'
    · have hne : Bk k ≠ Bk i := fun q => e (hj k i hk hi q)
      unfold Live; rw [blk_other hne, upd_ne _ e]; exact q
  refine ⟨fun k hk => ?_, hL⟩
  by_cases e : k = i
  · subst e; exact .inl hi'
  · refine (h k hk).imp (hL k hk) (fun ⟨a, b, q⟩ => ⟨a, by rw [upd_ne _ e]; exact b, ?_⟩)
    have hne : Bk k ≠ Bk i := fun q => e (hj k i hk hi q)
    rw [blk_other hne]; exact q

/-- What Link comes to. -/
def LinkPost (w : World) (Bk : Nat → Nat) (N : Nat) (nx pv : Nat → Nat) (val : Nat → Value) (i j : Nat) (e : Ending) (w' : World) : Prop :=
  e = .returned (ptr (Bk (nx i))) ∧ Rg w' Bk N (lnx nx pv i j) (lpv nx pv i j) val ∧ RSame Bk N w w'

/-- The world after Link's four stores. -/
def lw (w : World) (Bk : Nat → Nat) (nx pv : Nat → Nat) (i j : Nat) : World :=
  (((w.setCell ⟨Bk i, 0, none⟩ (ptr (Bk j))).setCell ⟨Bk j, 1, none⟩ (ptr (Bk i))).setCell ⟨Bk (nx i), 1, none⟩ (ptr (Bk (pv j)))).setCell ⟨Bk (pv j), 0, none⟩ (ptr (Bk (nx i)))

set_option maxHeartbeats 400000 in
theorem link_calls (w : World) (Bk : Nat → Nat) (N : Nat) (nx pv : Nat → Nat) (val : Nat → Value) (i j : Nat) (h : Rg w Bk N nx pv val) (hi : i < N) (hj : j < N) :
    Calls Try.prog 36 #[ptr (Bk i), ptr (Bk j)] w (LinkPost w Bk N nx pv val i j) := by
  go_enter Try.func36, Try.ntmps36
  go_wp2_with fail
  refine (next_calls w Bk N nx pv val i h hi).mono ?_
  rintro e w1 ⟨rfl, h1, h2, h3⟩
  have h1' := Lib.hid h1
  have h2' := Lib.hid h2
  have h3' := Lib.hid h3
  clear h h1 h2 h3
  go_wp2_with fail
  refine (prev_stay w1 Bk N nx pv val j h1'.out hj).mono ?_
  rintro e w2 ⟨rfl, g1, g2, g3, g4⟩
  have hni := h1'.out.inv.nlt i hi
  have hpj := h1'.out.inv.plt j hj
  have li := g4 i hi h2'.out
  have ln := g1.live_next hi li
  have lp := g1.live_prev hj g2
  have inj := g1.inj
  obtain ⟨s1, k1⟩ := set_next inj g1.cell hi j li
  obtain ⟨s2, k2⟩ := set_prev inj s1 hj i (k1 j hj g2)
  obtain ⟨s3, k3⟩ := set_prev inj s2 hni (pv j) (k2 _ hni (k1 _ hni ln))
  obtain ⟨s4, k4⟩ := set_next inj s3 hpj (nx i) (k3 _ hpj (k2 _ hpj (k1 _ hpj lp)))
  have c1 := li.c0
  have f1 := li.free 0
  have c2 := (k1 j hj g2).c1
  have f2 := (k1 j hj g2).free 1
  have c3 := (k2 _ hni (k1 _ hni ln)).c1
  have f3 := (k2 _ hni (k1 _ hni ln)).free 1
  have c4 := (k3 _ hpj (k2 _ hpj (k1 _ hpj lp))).c0
  have f4 := (k3 _ hpj (k2 _ hpj (k1 _ hpj lp))).free 0
  have hR : Hid (Rg (lw w2 Bk nx pv i j) Bk N (lnx nx pv i j) (lpv nx pv i j) val) := ⟨g1.inv.link hi hj, inj, s4⟩
  have hS : Hid (RSame Bk N w (lw w2 Bk nx pv i j)) := (h3'.out.trans g3).trans ((((RSame.set (Bk := Bk) w2 hi 0 (ptr (Bk j))).trans (RSame.set (Bk := Bk) _ hj 1 _)).trans (RSame.set (Bk := Bk) _ hni 1 _)).trans (RSame.set (Bk := Bk) _ hpj 0 _))
  clear s1 s2 s3 s4 k1 k2 k3 k4 g1 g2 g3 g4 li ln lp inj h1' h2' h3'
  go_wp2
  go_ret
  exact ⟨rfl, hR.out, hS.out⟩

/-- What Unlink comes to, of a number above 0. -/
theorem unlink_none (w : World) (b : Nat) (z : Int) (hz : z ≤ 0) :
    Calls Try.prog 37 #[ptr b, .int .i64 z] w fun e w' => e = .returned (.pointer none) ∧ w = w' := by
  go_enter Try.func37, Try.ntmps37
  go_wp2
  go_ret
  exact ⟨rfl, rfl⟩
theorem unlink_calls (w : World) (Bk : Nat → Nat) (N : Nat) (nx pv : Nat → Nat) (val : Nat → Value) (i : Nat) (z : Int) (h : Rg w Bk N nx pv val) (hi : i < N) (hz : 0 < z ∧ z ≤ 9223372036854775806) :
    Calls Try.prog 37 #[ptr (Bk i), .int .i64 z] w (LinkPost w Bk N nx pv val i (moved nx pv i (z + 1))) := by
  have t0 : decide (z ≤ 0) = false := by simp; omega
  go_enter Try.func37, Try.ntmps37
  go_wp2_with fail
  refine (move_calls w Bk N nx pv val i (z + 1) h hi (by omega)).mono ?_
  rintro e w1 ⟨rfl, h1, _, h3⟩
  have h1' := Lib.hid h1
  have h3' := Lib.hid h3
  clear h h1 h3
  have hm := moved_lt h1'.out.inv hi (z + 1)
  go_wp2_with fail
  refine (link_calls w1 Bk N nx pv val i _ h1'.out hi hm).mono ?_
  rintro e w2 ⟨rfl, g1, g3⟩
  go_wp2
  go_ret
  exact ⟨rfl, g1, h3'.out.trans g3⟩

end Go.Proofs.Ytmkkkhlalacaiaa

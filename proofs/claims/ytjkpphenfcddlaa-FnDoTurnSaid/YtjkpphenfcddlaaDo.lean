/- (*Ring).Do, with any closure. Written by dupdo.py. -/
import Derived.Test.YtjkpphenfcddlaaNew
import Derived.Test.YtjkpphenfcddlaaMove
namespace Go.Proofs.Ytjkpphenfcddlaa
open Go.RowKit
open Go.Proofs.Ytjkpphenfcddlaa.Rm
set_option linter.unusedVariables false

/-- What Do comes to: J tells how far the closure has gone. -/
def DoPost (Bk : Nat → Nat) (N : Nat) (nx pv : Nat → Nat) (val : Nat → Value) (J : Nat → World → Prop) (m : Nat) (e : Ending) (w' : World) : Prop := e = .returned (.tuple #[]) ∧ J m w' ∧ Rg w' Bk N nx pv val

theorem do_nil (w : World) (v : Value) :
    Calls Try.prog 42 #[.pointer none, v] w fun e w' => e = .returned (.tuple #[]) ∧ w = w' := by
  go_enter Try.func42, Try.ntmps42
  go_wp2
  go_end0
  exact ⟨rfl, rfl⟩

/-- A call of a function that has a body enters it. -/
theorem enters {P : Program} {f : FuncId} {fn : Func} {c : Code} (hf : P.funcs[f]? = some fn) (hname : (fn.name == "runtime.NumGoroutine") = false) (hb : fn.body = some c) (args : Array Value) (w : World) : (callFunc f args).run P w = .ok (.enter f args) w := by
  have h1 : fn.name ≠ "runtime.NumGoroutine" := by simpa using hname
  simp [callFunc, hf, h1, hb]

/-- What a closure that Do calls is to do. -/
structure Steps (body : Value → World → (Ending → World → Prop) → Prop) (Bk : Nat → Nat) (N : Nat) (nx pv : Nat → Nat) (val : Nat → Value) (J : Nat → World → Prop) (i m : Nat) : Prop where
  keep : ∀ k u u', J k u → RSame Bk N u u' → J k u'
  step : ∀ k u, k < m → Rg u Bk N nx pv val → J k u → body (val (it nx k i)) u fun e u' => e = .returned (.tuple #[]) ∧ J (k + 1) u' ∧ ∀ j, j < N → u'.heap[Bk j]? = u.heap[Bk j]?

/-- How many steps lead from an element to a block, from 1 on. -/
def far (Bk nx : Nat → Nat) (i m : Nat) (p : Value) : Nat :=
  match p with
  | .pointer (some a) => (List.range m).findIdx fun k => Bk (it nx (k + 1) i) == a.block
  | _ => 0
theorem Ring.it_sep {N : Nat} {nx pv : Nat → Nat} (hI : Inv N nx pv) {i : Nat} (hi : i < N) {l : List Nat} (hr : Rm.Ring nx i l) {a b : Nat} (ha : 1 ≤ a) (hab : a < b) (hb : b ≤ l.length) : it nx a i ≠ it nx b i := by
  intro e
  have e2 : it nx b i = it nx a (it nx (b - a) i) := by rw [← it_add]; congr 1; omega
  have := hI.it_inj a hi (hI.it_lt _ hi) (e.trans e2)
  exact Ring.it_ne hr (show 0 < b - a by omega) (by omega) this.symm
theorem far_is {w : World} {Bk : Nat → Nat} {N : Nat} {nx pv : Nat → Nat} {val : Nat → Value} (h : Rg w Bk N nx pv val) {i : Nat} (hi : i < N) {l : List Nat} (hr : Rm.Ring nx i l) {k : Nat} (hk : 1 ≤ k) (hm : k ≤ l.length) : far Bk nx i l.length (ptr (Bk (it nx k i))) = k - 1 := by
  unfold far
  simp only
  rw [List.findIdx_eq (by simp; omega)]
  refine ⟨by simp [show k - 1 + 1 = k by omega], fun j hj => ?_⟩
  simp only [List.getElem_range, beq_eq_false_iff_ne, ne_eq]
  intro e
  exact Ring.it_sep h.inv hi hr (show 1 ≤ j + 1 by omega) (show j + 1 < k by omega) hm (h.inj _ _ (h.inv.it_lt _ hi) (h.inv.it_lt _ hi) e)

set_option maxHeartbeats 400000 in
theorem do_one (w : World) (Bk : Nat → Nat) (N : Nat) (nx pv : Nat → Nat) (val : Nat → Value) (i : Nat) (l : List Nat) (F : Nat) (p : Value) (J : Nat → World → Prop)
    (hE : ∀ args w, (callFunc F args).run Try.prog w = .ok (.enter F args) w) (h : Rg w Bk N nx pv val) (hi : i < N) (hr : Rm.Ring nx i l) (h0 : J 0 w) (hS : Steps (fun v u => Calls Try.prog F #[v, p] u) Bk N nx pv val J i l.length) :
    Calls Try.prog 42 #[ptr (Bk i), .func (.func F) #[] #[p]] w (DoPost Bk N nx pv val J l.length) := by
  have hr' := Lib.hid hr
  have hp := hr.pos
  clear hr
  have hS' := Lib.hid hS
  clear hS
  have c0 := h.value hi
  have hh := Lib.hid h
  have h0' := Lib.hid h0
  clear h h0
  have hfar : ∀ k, 1 ≤ k → k ≤ l.length → far Bk nx i l.length (ptr (Bk (it nx k i))) = k - 1 := fun k a b => far_is hh.out hi hr'.out a b
  generalize hm : l.length = m at hp hS' hfar
  have hm' := Lib.hid hm
  clear hm
  go_enter Try.func42, Try.ntmps42
  go_wp2_with fail
  refine (hS'.out.step 0 w hp hh.out h0'.out).mono ?_
  rintro e w1 ⟨rfl, hJ, hk⟩
  have hJ1 := Lib.hid hJ
  have hh1 := Lib.hid (hh.out.keep hk)
  clear hJ hk c0 h0'
  go_wp2_with fail
  refine (next_calls w1 Bk N nx pv val i hh1.out hi).mono ?_
  rintro e w2 ⟨rfl, h1, h2, h3⟩
  have hh2 := Lib.hid h1
  have hl2 := Lib.hid h2
  have hJ2 := Lib.hid (hS'.out.keep _ _ _ hJ1.out h3)
  clear h1 h2 h3
  go_wp2
  go_loopw [4] (fun p wr => ∃ k : Nat, 1 ≤ k ∧ k ≤ m ∧ p = ptr (Bk (it nx k i)) ∧ Hid (Rg wr Bk N nx pv val) ∧ Hid (Live wr Bk nx pv val i) ∧ Hid (J k wr)) (fun p _ => m - far Bk nx i m p)
  case atStart => exact ⟨1, Nat.le_refl _, hp, rfl, hh2, hl2, hJ2⟩
  case round =>
    clear hh2 hl2 hJ2
    obtain ⟨k, hk1, hk, rfl, hh3, hl3, hJ3⟩ := hrel
    by_cases hlt : k < m
    · have hne : it nx k i ≠ i := Ring.it_ne hr'.out (by omega) (by rw [hm'.out]; exact hlt)
      have tq := (hh3.out.ptr_eq (hh3.out.inv.it_lt k hi) hi).2
      rw [show (!decide (it nx k i = i)) = true by simp [hne]] at tq
      clear hne
      have f1 := hfar k hk1 hk
      have f2 := hfar (k + 1) (by omega) (by omega)
      have hlk := Lib.hid (hh3.out.live_it k hi hl3.out)
      have hst := hS'.out.step k wr hlt hh3.out hJ3.out
      have c2 := hlk.out.c2
      have hlow := hh3.out.inv.it_lt k hi
      have ej := Lib.hid (it_last nx k i)
      rw [ej.out] at f2
      generalize it nx k i = j at tq f1 f2 hlk hst c2 hlow ej
      go_wp2_with fail
      refine hst.mono ?_
      rintro e w4 ⟨rfl, hJ4, hkeep⟩
      have hJ4' := Lib.hid hJ4
      have hh4 := Lib.hid (hh3.out.keep hkeep)
      have hl4 : Hid (Live w4 Bk nx pv val i) := (hkeep i hi).trans hl3.out
      have c0 : w4.cell? ⟨Bk j, 0, none⟩ = some (ptr (Bk (nx j))) := Live.c0 ((hkeep j hlow).trans hlk.out)
      clear hJ4 hkeep hst tq c2
      go_wp2
      go_roundw
      case rel => exact ⟨k + 1, by omega, by omega, by rw [ej.out], hh4, hl4, hJ4'⟩
      case measure => show m - far Bk nx i m (ptr (Bk (nx j))) < m - far Bk nx i m (ptr (Bk j)); rw [f1, f2]; omega
    · obtain rfl : k = m := by omega
      have e : it nx k i = i := by have := hr'.out.it_len; rwa [hm'.out] at this
      rw [e]
      clear e
      have tq := (hh3.out.ptr_eq hi hi).2
      simp only [decide_true, Bool.not_true] at tq
      go_wp2
      go_end0
      exact ⟨rfl, hJ3.out, hh3.out⟩

set_option maxHeartbeats 400000 in
theorem do_two (w : World) (Bk : Nat → Nat) (N : Nat) (nx pv : Nat → Nat) (val : Nat → Value) (i : Nat) (l : List Nat) (F : Nat) (p q : Value) (J : Nat → World → Prop)
    (hE : ∀ args w, (callFunc F args).run Try.prog w = .ok (.enter F args) w) (h : Rg w Bk N nx pv val) (hi : i < N) (hr : Rm.Ring nx i l) (h0 : J 0 w) (hS : Steps (fun v u => Calls Try.prog F #[v, p, q] u) Bk N nx pv val J i l.length) :
    Calls Try.prog 42 #[ptr (Bk i), .func (.func F) #[] #[p, q]] w (DoPost Bk N nx pv val J l.length) := by
  have hr' := Lib.hid hr
  have hp := hr.pos
  clear hr
  have hS' := Lib.hid hS
  clear hS
  have c0 := h.value hi
  have hh := Lib.hid h
  have h0' := Lib.hid h0
  clear h h0
  have hfar : ∀ k, 1 ≤ k → k ≤ l.length → far Bk nx i l.length (ptr (Bk (it nx k i))) = k - 1 := fun k a b => far_is hh.out hi hr'.out a b
  generalize hm : l.length = m at hp hS' hfar
  have hm' := Lib.hid hm
  clear hm
  go_enter Try.func42, Try.ntmps42
  go_wp2_with fail
  refine (hS'.out.step 0 w hp hh.out h0'.out).mono ?_
  rintro e w1 ⟨rfl, hJ, hk⟩
  have hJ1 := Lib.hid hJ
  have hh1 := Lib.hid (hh.out.keep hk)
  clear hJ hk c0 h0'
  go_wp2_with fail
  refine (next_calls w1 Bk N nx pv val i hh1.out hi).mono ?_
  rintro e w2 ⟨rfl, h1, h2, h3⟩
  have hh2 := Lib.hid h1
  have hl2 := Lib.hid h2
  have hJ2 := Lib.hid (hS'.out.keep _ _ _ hJ1.out h3)
  clear h1 h2 h3
  go_wp2
  go_loopw [4] (fun p wr => ∃ k : Nat, 1 ≤ k ∧ k ≤ m ∧ p = ptr (Bk (it nx k i)) ∧ Hid (Rg wr Bk N nx pv val) ∧ Hid (Live wr Bk nx pv val i) ∧ Hid (J k wr)) (fun p _ => m - far Bk nx i m p)
  case atStart => exact ⟨1, Nat.le_refl _, hp, rfl, hh2, hl2, hJ2⟩
  case round =>
    clear hh2 hl2 hJ2
    obtain ⟨k, hk1, hk, rfl, hh3, hl3, hJ3⟩ := hrel
    by_cases hlt : k < m
    · have hne : it nx k i ≠ i := Ring.it_ne hr'.out (by omega) (by rw [hm'.out]; exact hlt)
      have tq := (hh3.out.ptr_eq (hh3.out.inv.it_lt k hi) hi).2
      rw [show (!decide (it nx k i = i)) = true by simp [hne]] at tq
      clear hne
      have f1 := hfar k hk1 hk
      have f2 := hfar (k + 1) (by omega) (by omega)
      have hlk := Lib.hid (hh3.out.live_it k hi hl3.out)
      have hst := hS'.out.step k wr hlt hh3.out hJ3.out
      have c2 := hlk.out.c2
      have hlow := hh3.out.inv.it_lt k hi
      have ej := Lib.hid (it_last nx k i)
      rw [ej.out] at f2
      generalize it nx k i = j at tq f1 f2 hlk hst c2 hlow ej
      go_wp2_with fail
      refine hst.mono ?_
      rintro e w4 ⟨rfl, hJ4, hkeep⟩
      have hJ4' := Lib.hid hJ4
      have hh4 := Lib.hid (hh3.out.keep hkeep)
      have hl4 : Hid (Live w4 Bk nx pv val i) := (hkeep i hi).trans hl3.out
      have c0 : w4.cell? ⟨Bk j, 0, none⟩ = some (ptr (Bk (nx j))) := Live.c0 ((hkeep j hlow).trans hlk.out)
      clear hJ4 hkeep hst tq c2
      go_wp2
      go_roundw
      case rel => exact ⟨k + 1, by omega, by omega, by rw [ej.out], hh4, hl4, hJ4'⟩
      case measure => show m - far Bk nx i m (ptr (Bk (nx j))) < m - far Bk nx i m (ptr (Bk j)); rw [f1, f2]; omega
    · obtain rfl : k = m := by omega
      have e : it nx k i = i := by have := hr'.out.it_len; rwa [hm'.out] at this
      rw [e]
      clear e
      have tq := (hh3.out.ptr_eq hi hi).2
      simp only [decide_true, Bool.not_true] at tq
      go_wp2
      go_end0
      exact ⟨rfl, hJ3.out, hh3.out⟩

end Go.Proofs.Ytjkpphenfcddlaa

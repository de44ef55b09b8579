/- slices.ContainsFunc and impl.ContainsFunc. -/
import Derived.Test.YtgmnonijhgipbaaAsk
namespace Go.Proofs.Ytgmnonijhgipbaa
open Go.RowKit
set_option linter.unusedVariables false

/-- What ContainsFunc of the library comes to, with the closure of impl. -/
def HasAsk (w0 : World) (ta : Option Addr) (tn tc : Nat) (tb xs : List Int) (e : Ending) (w' : World) : Prop :=
  e = .returned (.bool (anyL tb xs)) ∧ ∃ v', Ask w0 w' ta tn tc v' (askedL tb xs)

theorem lcontains_calls (w0 w : World) (a : Option Addr) (n c : Nat) (xs : List Int) (ta : Option Addr) (tn tc : Nat) (tb : List Int) (v : Value) (hx : Rd .i64 w0 a n c xs) (ht : Rd .i64 w0 ta tn tc tb)
    (hn : n * 8 ≤ 140737488351232) (h : Ask w0 w ta tn tc v []) :
    Calls Try.prog 37 #[.slice a n c, .func (.func 38) #[] #[.pointer (some ⟨w0.heap.size + 2, 0, none⟩), .pointer (some ⟨w0.heap.size, 0, none⟩)]] w
      (HasAsk w0 ta tn tc tb xs) := by
  go_enter Try.func37, Try.ntmps37
  go_wp2_with fail
  refine (indexAsk_calls w0 w a n c xs ta tn tc tb v hx ht hn h).mono ?_
  clear h hx ht
  rintro e w1 ⟨i, rfl, hi, v', hA⟩
  have hA' := Lib.hid hA
  have hi' := Lib.hid hi
  clear hA hi
  go_wp2
  go_ret
  exact ⟨by simp [← hi'.out], v', hA'.out⟩

/-- What impl.ContainsFunc comes to. -/
def ContainsPost (w : World) (tb xs : List Int) (e : Ending) (w' : World) : Prop :=
  ∃ a n c, e = .returned (.tuple #[.bool (anyL tb xs), .slice a n c]) ∧ Rd .i64 w' a n c (askedL tb xs) ∧ Below w.heap.size w w'

theorem ask_start (w : World) (ta : Option Addr) (tn tc : Nat) : Ask w (((w.alloc (.cells #[.slice ta tn tc] 22)).alloc (.cells #[] 3)).alloc (.cells #[.slice (some ⟨w.heap.size + 1, 0, none⟩) 0 0] 22)) ta tn tc
    (.slice (some ⟨w.heap.size + 1, 0, none⟩) 0 0) [] := by
  have s1 : (w.alloc (.cells #[.slice ta tn tc] 22)).heap.size = w.heap.size + 1 := by simp
  have s2 : ((w.alloc (.cells #[.slice ta tn tc] 22)).alloc (.cells #[] 3)).heap.size = w.heap.size + 2 := by simp
  refine ⟨(((Below.refl _ _).alloc (Nat.le_refl _) _).alloc (by omega) _).alloc (by omega) _, ?_, ?_, ?_, ?_⟩
  · rw [Below.heap_alloc _ _ _ (by omega), Below.heap_alloc _ _ _ (by omega)]
    exact heap_alloc_new w _
  · have := heap_alloc_new ((w.alloc (.cells #[.slice ta tn tc] 22)).alloc (.cells #[] 3)) (.cells #[.slice (some ⟨w.heap.size + 1, 0, none⟩) 0 0] 22)
    rw [s2] at this
    exact this
  · have := Own.empty 3 (w.heap.size + 1) (w.alloc (.cells #[.slice ta tn tc] 22)) (by omega)
    rw [s1] at this
    exact this.alloc _
  · simp [Value.ownBlock]

set_option maxHeartbeats 400000 in
theorem contains_calls (w : World) (a : Option Addr) (n c : Nat) (xs : List Int) (ta : Option Addr) (tn tc : Nat) (tb : List Int) (hx : Rd .i64 w a n c xs) (ht : Rd .i64 w ta tn tc tb) (hn : n * 8 ≤ 140737488351232) :
    Calls Try.prog 24 #[.slice a n c, .slice ta tn tc] w (ContainsPost w tb xs) := by
  have hmf : ∀ (fn : Fn) (first cap : Array Value) (w : World), (Instr.makeFunc fn first cap).run Try.prog w = .ok (.func fn first cap) w := fun _ _ _ _ => rfl
  go_enter Try.func24, Try.ntmps24
  go_wp2_with fail
  refine (lcontains_calls w _ a n c xs ta tn tc tb _ hx ht hn (ask_start w ta tn tc)).mono ?_
  rintro e w1 ⟨rfl, v, hA⟩
  obtain ⟨a1, n1, c1, rfl, hr⟩ := hA.own.rd
  have hc : w1.cell? ⟨w.heap.size + 1 + 1, 0, none⟩ = some (.slice a1 n1 c1) := blk_cell (l := [_]) hA.var rfl
  have hb := hA.below
  have hr' := Lib.hid hr
  clear hA hr hx ht
  go_wp2
  go_quiet (fail)
  go_wp2
  go_ret2
  exact ⟨a1, n1, c1, rfl, hr'.out.below (below_drewN (Below.refl w1.heap.size w1) _) (Nat.le_refl _), below_drewN hb _⟩

end Go.Proofs.Ytgmnonijhgipbaa

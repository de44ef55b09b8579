/- Link and Unlink on sizes that were drawn, in any world behind that of the draw. Written by gendrawnc.py. -/
import Derived.Test.YtbkclmkncenaeaaUse
import Derived.Test.YtbkclmkncenaeaaILink
import Derived.Test.YtbkclmkncenaeaaSame
import Derived.Test.YtbkclmkncenaeaaLl
namespace Go.Proofs.Ytbkclmkncenaeaa
open Go.RowKit
open Go.Proofs.Ytbkclmkncenaeaa.Rm
set_option linter.unusedVariables false

/-- A number and two lists, in a world behind w0. -/
def LinkB (w0 : World) (k : Int) (l1 l2 : List Int) (e : Ending) (w' : World) : Prop :=
  ∃ a n c a' n' c', e = .returned (.tuple #[.int .i64 k, .slice a n c, .slice a' n' c']) ∧ Rd .i64 w' a n c l1 ∧ Rd .i64 w' a' n' c' l2 ∧ Below w0.heap.size w0 w'
theorem linkB {w0 u w' : World} {k : Int} {l1 l2 : List Int} {e : Ending} (hu : Below w0.heap.size w0 u) (h : LinkOut u k l1 l2 e w') : LinkB w0 k l1 l2 e w' := by
  obtain ⟨a, n, c, a', n', c', h1, h2, h3, h4⟩ := h
  exact ⟨a, n, c, a', n', c', h1, h2, h3, hu.trans (h4.mono hu.size)⟩
theorem Szs.link_in {w : World} {a : Option Addr} {n c : Nat} {xs : List Int} (h : Szs w a n c xs) (m k : Nat) (hm : m ≤ 65535) (hk : k ≤ 65535) (hi : m < tot xs) (hj : k < tot xs) (u : World) (hu : Below w.heap.size w u) :
    Calls Try.prog 17 #[.slice a n c, .int .u16 (m : Int), .int .u16 (k : Int)] u (LinkB w (mv (mk xs) m 1 : Nat) (nats (from' (Rm.link (mk xs) m k) m)) (nats (from' (Rm.link (mk xs) m k) (mv (mk xs) m 1)))) := by
  have hk' := h.below hu (Nat.le_refl _)
  have := hk'.n3
  have := hk'.t21
  exact (iLink_in u a n c xs m k hk'.rd hk'.small.wf (by omega) (by omega) hm hk hi hj).mono fun e w' q => linkB hu q
theorem Szs.link_out {w : World} {a : Option Addr} {n c : Nat} {xs : List Int} (h : Szs w a n c xs) (m k : Nat) (hm : m ≤ 65535) (hk : k ≤ 65535) (hi : tot xs ≤ m ∨ tot xs ≤ k) (u : World) (hu : Below w.heap.size w u) :
    Calls Try.prog 17 #[.slice a n c, .int .u16 (m : Int), .int .u16 (k : Int)] u (LinkB w (-3) [] []) := by
  have hk' := h.below hu (Nat.le_refl _)
  have := hk'.n3
  have := hk'.t21
  exact (iLink_out u a n c xs m k hk'.rd hk'.small.wf (by omega) (by omega) hm hk hi).mono fun e w' q => linkB hu q
theorem Szs.unlink_out {w : World} {a : Option Addr} {n c : Nat} {xs : List Int} (h : Szs w a n c xs) (m : Nat) (z : Int) (hm : m ≤ 65535) (hi : tot xs ≤ m) (u : World) (hu : Below w.heap.size w u) :
    Calls Try.prog 14 #[.slice a n c, .int .u16 (m : Int), .int .i64 z] u (LinkB w (-3) [] []) := by
  have hk' := h.below hu (Nat.le_refl _)
  have := hk'.n3
  have := hk'.t21
  exact (iUnlink_out u a n c xs m z hk'.rd hk'.small.wf (by omega) (by omega) hm hi).mono fun e w' q => linkB hu q
theorem Szs.unlink_none {w : World} {a : Option Addr} {n c : Nat} {xs : List Int} (h : Szs w a n c xs) (m : Nat) (z : Int) (hm : m ≤ 65535) (hi : m < tot xs) (hz : z ≤ 0) (u : World) (hu : Below w.heap.size w u) :
    Calls Try.prog 14 #[.slice a n c, .int .u16 (m : Int), .int .i64 z] u (LinkB w (-1) (nats (from' (mk xs) m)) []) := by
  have hk' := h.below hu (Nat.le_refl _)
  have := hk'.n3
  have := hk'.t21
  exact (iUnlink_none u a n c xs m z hk'.rd hk'.small.wf (by omega) (by omega) hm hi hz).mono fun e w' q => linkB hu q
theorem Szs.unlink_in {w : World} {a : Option Addr} {n c : Nat} {xs : List Int} (h : Szs w a n c xs) (m z : Nat) (hm : m ≤ 65535) (hi : m < tot xs) (hz : 0 < z) (hz2 : z ≤ 1000000) (u : World) (hu : Below w.heap.size w u) :
    Calls Try.prog 14 #[.slice a n c, .int .u16 (m : Int), .int .i64 (z : Int)] u (LinkB w (mv (mk xs) m 1 : Nat) (nats (from' (unlink (mk xs) m z) m)) (nats (from' (unlink (mk xs) m z) (mv (mk xs) m 1)))) := by
  have hk' := h.below hu (Nat.le_refl _)
  have := hk'.n3
  have := hk'.t21
  exact (iUnlink_in u a n c xs m z hk'.rd hk'.small.wf (by omega) (by omega) hm hi hz hz2).mono fun e w' q => linkB hu q
theorem Rd.same2 {w : World} {a a' : Option Addr} {n c n' c' : Nat} {l l' : List Int} (h : Rd .i64 w a n c l) (h' : Rd .i64 w a' n' c' l') (e : l = l') (u : World) (hu : Below w.heap.size w u) :
    Calls Try.prog 18 #[.slice a n c, .slice a' n' c'] u fun e u' => e = .returned (.bool true) ∧ Below w.heap.size w u' :=
  (same_calls a a' n c n' c' l l' u (h.below hu (Nat.le_refl _)) (h'.below hu (Nat.le_refl _))).mono fun e w' q => ⟨by simp [q.1, *], hu.trans (q.2.mono hu.size)⟩

end Go.Proofs.Ytbkclmkncenaeaa

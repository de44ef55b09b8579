/- The bytes that a drawn law takes. -/
import Derived.Test.YtgmnonijhgipbaaDrawC
namespace Go.Proofs.Ytgmnonijhgipbaa
open Go.RowKit

theorem bytes_of_wf {xs : List Int} (h : ∀ x ∈ xs, (Lit.int .u8 x).wf = true) : Bytes xs := by
  intro i hi
  have hx := h _ (show xs.getD i 0 ∈ xs by simp [List.getD_eq_getElem?_getD, hi])
  simp [Lit.wf, IntKind.min, IntKind.max, IntKind.signed, IntKind.bits] at hx
  simp only [List.getD_eq_getElem?_getD]
  omega
theorem Bytes.cut {xs : List Int} (h : Bytes xs) (lo hi : Nat) : Bytes ((xs.take hi).drop lo) := by
  intro i hi'
  simp only [List.length_drop, List.length_take] at hi'
  have := h (lo + i) (by omega)
  simp only [List.getD_eq_getElem?_getD, List.getElem?_drop, List.getElem?_take] at this ⊢
  rw [if_pos (by omega)]
  exact this
theorem cutA_lt_blk {a : Option Addr} {mx lo B : Nat} (h : ∀ ad, a = some ad → ad.block < B) : ∀ ad, cutA a mx lo = some ad → ad.block < B := by
  intro ad e
  unfold cutA at e
  split at e
  · exact h ad e
  · cases a with
    | none => simp at e
    | some x =>
      simp at e
      subst e
      have := h x rfl
      unfold Addr.add
      split <;> simpa using this
theorem sizeByte : (Try.prog.info? 5).map (·.size) = some 1 := by kernel_rfl

end Go.Proofs.Ytgmnonijhgipbaa

/- What the rows' frames share: arguments opened into the form that the walks take. -/
import Derived.Test.YtmkkkhlalacaiaaRows
import Derived.Test.YtmkkkhlalacaiaaBase
import Derived.ProofKit
import Derived.OpenShut
import Derived.ShutString
import Derived.ChangeOld
import Derived.Below
import Derived.SizedLaws
namespace Go.Proofs.Ytmkkkhlalacaiaa
open Go.ChangeShapes Go.WideShapes Go.ChangeAt Go.RowKit

theorem ownKnobs : ownKnob Try.prog.godebug = none := by kernel_rfl
theorem laidOuts : laidOutB Try.prog = true := by kernel_rfl

/-- A slice of integers that came in: its reading, that its numbers fit their kind, and its datum's size. -/
theorem open_rd {H : Type} {enc : TypeId × Value → H} {P : Program} {W : World} {base : Nat} {t e : TypeId} {k : IntKind} {v : Value} {d : DataW H} {p : List MemPlace}
    (ht : P.underlying t = some (.slice e)) (he : P.underlying e = some (.int k)) (hc : P.cellsOf e = 1)
    (hv : Value.okWide P W .any base t v) (h : DataW.Trod enc P W 0 (fun _ => true) true t v d p) :
    ∃ a n c xs, v = .slice a n c ∧ Rd k W a n c xs ∧ (∀ x ∈ xs, (Lit.int k x).wf = true) ∧ (∀ ad, a = some ad → ad.block < W.heap.size) ∧ ((d = .nil ∧ c = 0) ∨ ∃ elems spare, d = .slice elems spare ∧ elems.length + spare.length = c) := by
  obtain ⟨fuel, hf⟩ := h
  rcases open_ints ht he hc hf with ⟨hcs, hx⟩ | ⟨x, l, c, zs, hcs, _, hl, hm, hz, hx, hcell, hwz⟩
  · obtain ⟨a, n, c, rfl⟩ := okWide_slice ht hv
    simp [Value.cells] at hcs
    obtain ⟨rfl, rfl, rfl⟩ := hcs
    simp only [Prod.mk.injEq] at hx
    exact ⟨none, 0, 0, [], rfl, Rd.nil _ _, by simp, (fun ad e => by cases e), .inl ⟨hx.1, rfl⟩⟩
  · obtain ⟨a, n, c', rfl⟩ := okWide_slice ht hv
    simp [Value.cells] at hcs
    obtain ⟨rfl, rfl, rfl⟩ := hcs
    simp only [Value.okWide, ht, Cell.okWide, Cell.ok, World.has] at hv
    obtain ⟨_, _, _, hspot, row, cells, hshape, _⟩ := hv
    obtain ⟨b, off, spot⟩ := x
    simp only at hspot hshape
    subst hspot
    have hb : b < W.heap.size := by
      simp only [World.shape?] at hshape
      cases hq : W.heap[b]? with
      | none => simp [hq] at hshape
      | some o => exact blk_lt hq
    simp only [if_true] at hz
    simp only [Prod.mk.injEq] at hx
    refine ⟨some ⟨b, off, none⟩, n, c', zs.take n, rfl, Rd.mk' (by simp; omega) hl hm (fun _ => hb) ?_, fun y hy => hwz y (List.mem_of_mem_take hy), (fun ad e => by cases e; exact hb), .inr ⟨_, _, hx.1, by simp [lits]; omega⟩⟩
    intro i hi
    have := hcell i (by omega)
    rw [Addr.add_lit] at this
    rw [this]
    simp only [List.getD_eq_getElem?_getD, List.getElem?_take]
    rw [if_pos hi]

theorem sized_rd {H : Type} {P : Program} {ts : List TypeId} {ds : List (DataW H)} (h : (DataW.weightsEach P ts ds).all (· ≤ reachBytes) = true) (j : Nat) {t e : TypeId} {d : DataW H} {c : Nat}
    (ht : ts[j]? = some t) (hd : ds[j]? = some d) (hu : P.underlying t = some (.slice e)) (hf : (d = .nil ∧ c = 0) ∨ ∃ elems spare, d = .slice elems spare ∧ elems.length + spare.length = c) :
    c * P.bytesOf e ≤ 140737488351232 := by
  rcases hf with ⟨_, rfl⟩ | ⟨elems, spare, rfl, rfl⟩
  · omega
  · have := sized_slice h ht hd hu
    simpa [reachBytes] using this
theorem wf_i64 {n : Int} (h : (Lit.int .i64 n).wf = true) : -9223372036854775808 ≤ n ∧ n ≤ 9223372036854775807 := bounds_i64 h
theorem wf_u16' {n : Int} (h : (Lit.int .u16 n).wf = true) : 0 ≤ n ∧ n ≤ 65535 := bounds_u16 h
theorem wf_u16 {n : Int} (h : (Lit.int .u16 n).wf = true) : ∃ m : Nat, n = (m : Int) ∧ m ≤ 65535 := by
  have := wf_u16' h
  exact ⟨n.toNat, by omega, by omega⟩
theorem wf_u8 {n : Int} (h : (Lit.int .u8 n).wf = true) : 0 ≤ n ∧ n ≤ 255 := bounds_u8 h

end Go.Proofs.Ytmkkkhlalacaiaa

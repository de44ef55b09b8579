/- The frame of a row whose argument is a slice of pairs. -/
import Derived.Test.YtgmnonijhgipbaaFrame
import Derived.Test.YtgmnonijhgipbaaPairs
import Derived.Deep.Slices
namespace Go.Proofs.Ytgmnonijhgipbaa
open Go.ChangeShapes Go.WideShapes Go.ChangeAt Go.RowKit Go.Deep

/-- A slice of pairs of ints that came in. -/
theorem open_rdp {H : Type} {enc : TypeId × Value → H} {P : Program} {W : World} {base : Nat} {t e q : TypeId} {v : Value} {d : DataW H} {p : List MemPlace}
    (ht : P.underlying t = some (.slice e)) (he : P.underlying e = some (.array 2 q)) (hq : P.underlying q = some (.int .i64)) (hc : P.cellsOf e = 2) (hcq : P.cellsOf q = 1)
    (hv : Value.okWide P W .any base t v) (h : DataW.Trod enc P W 0 (fun _ => true) true t v d p) :
    ∃ a n c xs, v = .slice a n c ∧ RdP W a n c xs ∧ (∀ ad, a = some ad → ad.block < W.heap.size) := by
  obtain ⟨a, n, c, rfl⟩ := okWide_slice ht hv
  obtain ⟨fuel, hf⟩ := h
  rcases open_slice ht hf with ⟨hcs, hx⟩ | ⟨ad, len, cap, m, n', D, Pl, hcs, _, hl, hm, hmm, hx, hi⟩
  · simp [Value.cells] at hcs
    obtain ⟨rfl, rfl, rfl⟩ := hcs
    exact ⟨none, 0, 0, [], rfl, RdP.nil _, (fun ad e => by cases e)⟩
  · simp [Value.cells] at hcs
    obtain ⟨rfl, rfl, rfl⟩ := hcs
    simp only [Value.okWide, ht, Cell.okWide, Cell.ok, World.has] at hv
    obtain ⟨_, _, _, hspot, row, cells, hshape, _⟩ := hv
    obtain ⟨b, off, spot⟩ := ad
    simp only at hspot hshape
    subst hspot
    have hb : b < W.heap.size := by
      simp only [World.shape?] at hshape
      cases hq : W.heap[b]? with
      | none => simp [hq] at hshape
      | some o => exact blk_lt hq
    simp only [if_true] at hmm
    subst hmm
    have key : ∀ i, i < n → ∃ x y : Int, W.cell? ⟨b, off + i * 2, none⟩ = some (.int .i64 x) ∧ W.cell? ⟨b, off + i * 2 + 1, none⟩ = some (.int .i64 y) := by
      intro i hin
      obtain ⟨cs', hcc, htr⟩ := hi i (by omega)
      rw [hc] at hcc
      obtain ⟨_, hcl, hat⟩ := World.cells?_some hcc
      obtain ⟨ys, m', _, _, _, hyl, hel⟩ := DataW.trod_array he htr
      match cs', hcl with
      | [c0, c1], _ =>
        have e0 := hel 0 (by omega)
        have e1 := hel 1 (by omega)
        rw [hcq] at e0 e1
        rw [List.getElem?_eq_getElem (by omega)] at e0 e1
        obtain ⟨x, ex, _, _⟩ := DataW.trod_int hq e0
        obtain ⟨y, ey, _, _⟩ := DataW.trod_int hq e1
        simp at ex ey
        have h0 := hat 0 (by omega)
        have h1 := hat 1 (by omega)
        rw [Addr.add_lit, Addr.add_lit] at h0 h1
        subst ex; subst ey
        exact ⟨x, y, by simpa using h0, by simpa using h1⟩
    let X : Nat → Int := fun i => if h : i < n then (key i h).choose else 0
    let Y : Nat → Int := fun i => if h : i < n then (key i h).choose_spec.choose else 0
    refine ⟨some ⟨b, off, none⟩, n, _, (List.range n).map fun i => (X i, Y i), rfl, ⟨by simp, hl, hm, fun i p hp => ?_⟩, (fun ad e => by cases e; exact hb)⟩
    simp only [List.getElem?_map, Option.map_eq_some_iff] at hp
    obtain ⟨k, hk, rfl⟩ := hp
    obtain ⟨hkn, hke⟩ := List.getElem?_eq_some_iff.1 hk
    simp only [List.getElem_range] at hke
    subst hke
    have hin : i < n := by simpa using hkn
    have hs := (key i hin).choose_spec.choose_spec
    refine ⟨b, off, rfl, hb, ?_, ?_⟩
    · show _ = some (Value.int .i64 (X i))
      rw [show X i = (key i hin).choose from dif_pos hin]; exact hs.1
    · show _ = some (Value.int .i64 (Y i))
      rw [show Y i = (key i hin).choose_spec.choose from dif_pos hin]; exact hs.2

end Go.Proofs.Ytgmnonijhgipbaa

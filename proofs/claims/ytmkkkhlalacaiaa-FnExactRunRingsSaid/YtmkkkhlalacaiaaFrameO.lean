/- The frame of a row whose argument is a slice of calls of a script. -/
import Derived.Test.YtmkkkhlalacaiaaFrame
import Derived.Test.YtmkkkhlalacaiaaOps
import Derived.Deep.Slices
import Derived.Deep.Fields
import Derived.Lib.SmallJoins
namespace Go.Proofs.Ytmkkkhlalacaiaa
open Go.ChangeShapes Go.WideShapes Go.ChangeAt Go.RowKit Go.Deep Go.Joins

/-- A slice of calls that came in. -/
theorem open_rdo {H : Type} {enc : TypeId × Value → H} {P : Program} {W : World} {base : Nat} {t e : TypeId} {f0 f1 f2 f3 : Field} {v : Value} {d : DataW H} {p : List MemPlace}
    (ht : P.underlying t = some (.slice e)) (he : P.underlying e = some (.struct #[f0, f1, f2, f3])) (hone : oneCellFields P #[f0, f1, f2, f3] = true) (hc : P.cellsOf e = 4)
    (k0 : P.underlying f0.type = some .string) (k1 : P.underlying f1.type = some (.int .u16)) (k2 : P.underlying f2.type = some (.int .u16)) (k3 : P.underlying f3.type = some (.int .i64))
    (hv : Value.okWide P W .any base t v) (h : DataW.Trod enc P W 0 (fun _ => true) true t v d p) :
    ∃ a n c xs, v = .slice a n c ∧ (RdO W a n c xs ∧ OpsU xs) ∧ (∀ ad, a = some ad → ad.block < W.heap.size) := by
  obtain ⟨a, n, c, rfl⟩ := okWide_slice ht hv
  obtain ⟨fuel, hf⟩ := h
  rcases open_slice ht hf with ⟨hcs, hx⟩ | ⟨ad, len, cap, m, n', D, Pl, hcs, _, hl, hm, hmm, hx, hi⟩
  · simp [Value.cells] at hcs
    obtain ⟨rfl, rfl, rfl⟩ := hcs
    exact ⟨none, 0, 0, [], rfl, ⟨⟨rfl, Nat.le_refl _, by omega, fun i p h => by simp at h⟩, fun p hp => by simp at hp⟩, (fun ad e => by cases e)⟩
  · simp [Value.cells] at hcs
    obtain ⟨rfl, rfl, rfl⟩ := hcs
    simp only [Value.okWide, ht, Cell.okWide, Cell.ok, World.has] at hv
    obtain ⟨_, _, _, hspot, row, cells, hshape, _⟩ := hv
    obtain ⟨b, off, spot⟩ := ad
    simp only at hspot hshape
    subst hspot
    have hb : b < W.heap.size := by
      simp only [World.shape?] at hshape
      cases hq : W.heap[b]? with
      | none => simp [hq] at hshape
      | some o => exact blk_lt hq
    simp only [if_true] at hmm
    subst hmm
    have key : ∀ i, i < n → ∃ q : OpV, (q.at' ≤ 65535 ∧ q.to ≤ 65535) ∧ W.cell? ⟨b, off + i * 4, none⟩ = some (.string q.kind) ∧ W.cell? ⟨b, off + i * 4 + 1, none⟩ = some (.int .u16 (q.at' : Int)) ∧ W.cell? ⟨b, off + i * 4 + 2, none⟩ = some (.int .u16 (q.to : Int)) ∧ W.cell? ⟨b, off + i * 4 + 3, none⟩ = some (.int .i64 q.n) := by
      intro i hin
      obtain ⟨cs', hcc, htr⟩ := hi i (by omega)
      rw [hc] at hcc
      obtain ⟨_, hcl, hat⟩ := World.cells?_some hcc
      obtain ⟨y0, y1, y2, y3, m', _, _, e0, e1, e2, e3⟩ := trod_struct4 he htr
      obtain ⟨o0, s0⟩ := hone_of hone 0 f0 rfl
      obtain ⟨o1, s1⟩ := hone_of hone 1 f1 rfl
      obtain ⟨o2, s2⟩ := hone_of hone 2 f2 rfl
      obtain ⟨o3, s3⟩ := hone_of hone 3 f3 rfl
      rw [o0, s0] at e0
      rw [o1, s1] at e1
      rw [o2, s2] at e2
      rw [o3, s3] at e3
      match cs', hcl with
      | [c0, c1, c2, c3], _ =>
        obtain ⟨s, es, _, _⟩ := DataW.trod_string k0 e0
        obtain ⟨x, ex, _, wx⟩ := DataW.trod_int k1 e1
        obtain ⟨y, ey, _, wy⟩ := DataW.trod_int k2 e2
        obtain ⟨z, ez, _, wz⟩ := DataW.trod_int k3 e3
        simp at es ex ey ez
        obtain ⟨mx, rfl, hmx⟩ := wf_u16 wx
        obtain ⟨my, rfl, hmy⟩ := wf_u16 wy
        have h0 := hat 0 (by omega)
        have h1 := hat 1 (by omega)
        have h2 := hat 2 (by omega)
        have h3 := hat 3 (by omega)
        rw [Addr.add_lit, Addr.add_lit] at h0 h1 h2 h3
        subst es; subst ex; subst ey; subst ez
        exact ⟨⟨s, mx, my, z⟩, ⟨hmx, hmy⟩, by simpa using h0, by simpa using h1, by simpa using h2, by simpa using h3⟩
    let X : Nat → OpV := fun i => if h : i < n then (key i h).choose else ⟨⟨#[]⟩, 0, 0, 0⟩
    have hX : ∀ i (h : i < n), X i = (key i h).choose := fun i h => dif_pos h
    refine ⟨some ⟨b, off, none⟩, n, _, (List.range n).map X, rfl, ⟨⟨by simp, hl, hm, fun i p hp => ?_⟩, fun p hp => ?_⟩, (fun ad e => by cases e; exact hb)⟩
    · simp only [List.getElem?_map, Option.map_eq_some_iff] at hp
      obtain ⟨k, hk, rfl⟩ := hp
      obtain ⟨hkn, hke⟩ := List.getElem?_eq_some_iff.1 hk
      simp only [List.getElem_range] at hke
      subst hke
      have hin : i < n := by simpa using hkn
      have hs := (key i hin).choose_spec.2
      rw [← hX i hin] at hs
      exact ⟨b, off, rfl, hb, hs.1, hs.2.1, hs.2.2.1, hs.2.2.2⟩
    · rw [List.mem_map] at hp
      obtain ⟨i, hi, rfl⟩ := hp
      have hin : i < n := List.mem_range.1 hi
      rw [hX i hin]
      exact (key i hin).choose_spec.1

end Go.Proofs.Ytmkkkhlalacaiaa

/- Slices that the code itself makes and appends to: what is owned, and the laws of append in the form that the walks take. -/
import Derived.Test.YtmkkkhlalacaiaaBase
import Derived.Maps.AppendAt
import Derived.OwnWalk
import Derived.OneCell
namespace Go.Proofs.Ytmkkkhlalacaiaa
open Go.RowKit

/-- The slice value v owns, from block 'base' on, a row whose elements (one cell each) are xs. -/
def Own (E : TypeId) (base : Nat) (w : World) (v : Value) (xs : List Value) : Prop := w.ownsRow base E 1 v xs.length xs

/-- What an append leaves: only v's own block may have turned; v' lies there or in a new block. -/
structure Pushed (w w' : World) (v v' : Value) : Prop where
  grown : w.grownBy w' v.ownBlock
  at' : v'.ownBlock = v.ownBlock ∨ ∃ g, v'.ownBlock = some g ∧ w.heap.size ≤ g

theorem Own.alloc {E : TypeId} {base : Nat} {w : World} {v : Value} {xs : List Value} (h : Own E base w v xs) (o : Obj) : Own E base (w.alloc o) v xs := World.ownsRow.alloc h o
theorem Own.drewN {E : TypeId} {base : Nat} {w : World} {v : Value} {xs : List Value} (h : Own E base w v xs) (n : Nat) : Own E base (w.drewN n) v xs := h
theorem Own.drew {E : TypeId} {base : Nat} {w : World} {v : Value} {xs : List Value} (h : Own E base w v xs) : Own E base w.drew v xs := h
theorem Own.form {E : TypeId} {base : Nat} {w : World} {v : Value} {xs : List Value} (h : Own E base w v xs) :
    (v = .slice none 0 0 ∧ xs = []) ∨ ∃ g cap cur, v = .slice (some ⟨g, 0, none⟩) xs.length cap ∧ base ≤ g ∧ w.heap[g]? = some (.cells cur E (0, 0)) ∧ xs.length ≤ cap ∧ cap ≤ maxLen ∧ cur.size = cap ∧ cur.toList.take xs.length = xs := by
  obtain ⟨_, h2⟩ := h
  rcases h2 with ⟨rfl, h0⟩ | ⟨g, cap, cur, hv, hg, hh, h3, h4, h5, h6⟩
  · exact .inl ⟨rfl, List.eq_nil_of_length_eq_zero h0⟩
  · exact .inr ⟨g, cap, cur, hv, hg, hh, h3, h4, by simpa using h5, by simpa using h6⟩
theorem Own.lt {E : TypeId} {base : Nat} {w : World} {v : Value} {xs : List Value} (h : Own E base w v xs) {k : Nat} (hk : v.ownBlock = some k) : base ≤ k ∧ k < w.heap.size := World.ownsRow.lt h k hk
/-- A world that is as it was at v's own block owns as before. -/
theorem Own.keep {E : TypeId} {base : Nat} {w w' : World} {v : Value} {xs : List Value} (h : Own E base w v xs) (hk : ∀ k, v.ownBlock = some k → w'.heap[k]? = w.heap[k]?) : Own E base w' v xs := by
  refine ⟨h.1, ?_⟩
  rcases h.2 with h2 | ⟨g, cap, cur, hv, hg, hh, r⟩
  · exact .inl h2
  · exact .inr ⟨g, cap, cur, hv, hg, by rw [hk g (by rw [hv]; rfl)]; exact hh, r⟩
theorem Own.below {E : TypeId} {base B : Nat} {w w' : World} {v : Value} {xs : List Value} (h : Own E base w v xs) (hb : Below B w w') (hB : w.heap.size ≤ B) : Own E base w' v xs :=
  h.keep fun k hk => hb.block k (by have := (h.lt hk).2; omega)
theorem Own.base {E : TypeId} {base base' : Nat} {w : World} {v : Value} {xs : List Value} (h : Own E base w v xs) (hb : base' ≤ base) : Own E base' w v xs := by
  refine ⟨h.1, ?_⟩
  rcases h.2 with h2 | ⟨g, cap, cur, hv, hg, r⟩
  · exact .inl h2
  · exact .inr ⟨g, cap, cur, hv, by omega, r⟩
theorem Own.nil (E : TypeId) (base : Nat) (w : World) : Own E base w (.slice none 0 0) [] := World.ownsRow_nil w base E 1
/-- A literal '[]T{}': a new block with nothing in it. -/
theorem Own.empty (E : TypeId) (base : Nat) (w : World) (hb : base ≤ w.heap.size) : Own E base (w.alloc (.cells #[] E)) (.slice (some ⟨w.heap.size, 0, none⟩) 0 0) [] :=
  ⟨rfl, .inr ⟨w.heap.size, 0, #[], rfl, hb, heap_alloc_new w _, Nat.le_refl _, by unfold maxLen; omega, rfl, rfl⟩⟩
/-- A literal of some elements. -/
theorem Own.lit (E : TypeId) (base : Nat) (w : World) (xs : List Value) (hb : base ≤ w.heap.size) (hl : xs.length ≤ maxLen) : Own E base (w.alloc (.cells xs.toArray E)) (.slice (some ⟨w.heap.size, 0, none⟩) xs.length xs.length) xs :=
  ⟨by simp, .inr ⟨w.heap.size, xs.length, xs.toArray, rfl, hb, heap_alloc_new w _, Nat.le_refl _, hl, by simp, by simp⟩⟩

/-- What is owned can be read. -/
theorem Own.rd {E : TypeId} {base : Nat} {w : World} {v : Value} {k : IntKind} {xs : List Int} (h : Own E base w v (xs.map (Value.int k))) : ∃ a n c, v = .slice a n c ∧ Rd k w a n c xs := by
  rcases h.form with ⟨rfl, h0⟩ | ⟨g, cap, cur, rfl, _, hh, h3, h4, h5, h6⟩
  · obtain rfl : xs = [] := by simpa using h0
    exact ⟨none, 0, 0, rfl, Rd.nil k w⟩
  · simp only [List.length_map] at h3 h6 ⊢
    refine ⟨_, _, _, rfl, Rd.blk (l := cur.toList) (t := E) (fr := (0, 0)) (by simpa using hh) rfl h3 h4 fun i hi => ?_⟩
    have e : cur.toList[0 + i]? = (cur.toList.take xs.length)[i]? := by rw [List.getElem?_take, if_pos hi, Nat.zero_add]
    rw [e, h6]
    simp [List.getD_eq_getElem?_getD, hi]

theorem Rd.cells {k : IntKind} {w : World} {a : Option Addr} {n c : Nat} {xs : List Int} (h : Rd k w a n c xs) : ∀ ad', a = some ad' → ∀ j u, (xs.map (Value.int k))[j]? = some u → w.cell? (ad'.add j) = some u := by
  intro ad' e j u hj
  have hlt : j < xs.length := by simpa using (List.getElem?_eq_some_iff.1 hj).1
  obtain ⟨b, off, rfl, _, hc⟩ := h.at (by rw [← h.len]; omega)
  cases e
  rw [Addr.add_lit, hc j (by rw [← h.len]; exact hlt), ← hj]
  simp [List.getD_eq_getElem?_getD, hlt]
theorem ints_one (k : IntKind) (xs : List Int) : ∀ u, u ∈ xs.map (Value.int k) → u.oneCell' = true := ints_oneCell k xs
theorem own_slice {E : TypeId} {base : Nat} {w : World} {v : Value} {xs : List Value} (h : Own E base w v xs) : ∃ a c, v = .slice a xs.length c := by
  rcases h.form with ⟨rfl, rfl⟩ | ⟨g, cap, cur, rfl, _⟩
  · exact ⟨none, 0, rfl⟩
  · exact ⟨_, _, rfl⟩

theorem own_any {E : TypeId} {base : Nat} {w : World} {v : Value} {xs : List Value} (h : Own E base w v xs) : ∃ a n c, v = .slice a n c := by
  obtain ⟨a, c, e⟩ := own_slice h
  exact ⟨a, _, c, e⟩

section
variable {P : Program} {w : World} {ops : Array Oper} {rest : List Oper} {o : Oper} {a : Act} {Q : Exit → Act → World → Prop}
/-- out = append(out, y) -/
theorem wpl_push (hgd : o.guard = none) (s x : Operand) (T E : TypeId) (ho : o.op = .call { callee := .builtin .append, args := #[s, x], argTypes := #[T, T] })
    {z : Value} {bytes : Nat} (hu : P.underlying T = some (.slice E)) (hin : (P.info? E).map (fun i => (i.zero, i.size, i.bytes)) = some (some z, 1, bytes)) (hz : z.cells.size = 1)
    (base : Nat) (v : Value) (xs : List Value) (y : Value) (hy : y.oneCell' = true) (hs : a.eval s = v) (hx : a.eval x = .slice (some ⟨w.heap.size, 0, none⟩) 1 1)
    (hown : Own E base w v xs) (hlen : xs.length + 1 ≤ maxLen) (hbytes : (xs.length + 1) * bytes ≤ 140737488355328) (hbase : base ≤ w.heap.size)
    (h : ∀ v' w', Own E base w' v' (xs ++ [y]) → Pushed w w' v v' → wpList P ops Q rest (a.put o.dst v') w') :
    wpList P ops Q (o :: rest) a (w.alloc (.cells #[y] E)) := by
  obtain ⟨i0, hi, hz0, hz1, hz2⟩ := info_parts hin
  refine wpList_append_own_at (w.alloc (.cells #[y] E)) hgd s x T ho base E i0 z 1 bytes hu hi hz0 hz1 hz2 hz (by omega) v xs.length xs hs (hown.alloc _) ⟨w.heap.size, 0, none⟩ 1 1 [y] hx rfl ?_ ?_ hlen hbytes (by simp; omega) ?_
  · intro j u hj
    match j, hj with
    | 0, hj => simp at hj; subst hj; rw [Addr.add_lit]; exact blk_cell (l := [y]) (heap_alloc_new w _) rfl
  · intro u hu; simp at hu; subst hu; exact hy
  · intro v' w' h1 h2 _ h4
    refine h v' w' (by simpa [Own] using h1) ⟨⟨h2.os, h2.tape, h2.output, Nat.le_trans (by simp) h2.size, fun k hk hne => ?_⟩, ?_⟩
    · rw [h2.block k (by simp; omega) hne]; exact Below.heap_alloc _ _ _ hk
    · rcases h4 with h4 | h4
      · exact .inl h4
      · exact .inr ⟨_, h4, by simp⟩
/-- out = append(out, ys...), where ys may be nil or empty -/
theorem wpl_join (hgd : o.guard = none) (s x : Operand) (T E : TypeId) (ho : o.op = .call { callee := .builtin .append, args := #[s, x], argTypes := #[T, T] })
    {z : Value} {bytes : Nat} (hu : P.underlying T = some (.slice E)) (hin : (P.info? E).map (fun i => (i.zero, i.size, i.bytes)) = some (some z, 1, bytes)) (hz : z.cells.size = 1)
    (base : Nat) (v : Value) (xs ys : List Value) (hy : ∀ y, y ∈ ys → y.oneCell' = true) (hs : a.eval s = v) (ad : Option Addr) (m c : Nat) (hx : a.eval x = .slice ad m c) (hm : ys.length = m) (hn : ad = none → m = 0 ∧ c = 0)
    (hc : ∀ ad', ad = some ad' → ∀ j u, ys[j]? = some u → w.cell? (ad'.add j) = some u)
    (hown : Own E base w v xs) (hlen : xs.length + m ≤ maxLen) (hbytes : (xs.length + m) * bytes ≤ 140737488355328) (hbase : base ≤ w.heap.size)
    (h : ∀ v' w', Own E base w' v' (xs ++ ys) → Pushed w w' v v' → wpList P ops Q rest (a.put o.dst v') w') :
    wpList P ops Q (o :: rest) a w := by
  obtain ⟨i0, hi, hz0, hz1, hz2⟩ := info_parts hin
  cases ad with
  | none =>
    obtain ⟨rfl, rfl⟩ := hn rfl
    obtain rfl : ys = [] := List.eq_nil_of_length_eq_zero hm
    refine wpList_plain hgd fun K hK => ?_
    have hr : (Builtin.append_ #[T, T] o.type #[v, .slice none 0 0]).run P w = .ok v w := by
      rcases hown.form with ⟨rfl, rfl⟩ | ⟨g, cap, cur, rfl, _, hh, h3, _, h5, h6⟩
      · simp [Builtin.append_, run_underlying hu, sizeOf, typeInfo, hi, Builtin.lenOf, Builtin.firstCells]
      · simp [Builtin.append_, run_underlying hu, sizeOf, typeInfo, hi, Builtin.lenOf, Builtin.firstCells, h3, storeCells]
    unfold Oper.wp execOp
    simp only [ho, resolve, invoke, builtin, Sem.run_bind, Sem.run_pure, Result.andThen_ok, List.map_toArray, List.map_cons, List.map_nil, hs, hx, hr]
    exact hK _ _ (h v w (by simpa using hown) ⟨⟨rfl, rfl, rfl, Nat.le_refl _, fun _ _ _ => rfl⟩, .inl rfl⟩)
  | some ad =>
    refine wpList_append_own_at w hgd s x T ho base E i0 z 1 bytes hu hi hz0 hz1 hz2 hz (by omega) v xs.length xs hs hown ad m c ys hx (by simpa using hm) (hc ad rfl) hy hlen hbytes hbase ?_
    intro v' w' h1 h2 _ h4
    refine h v' w' (by simpa [Own, hm] using h1) ⟨h2, ?_⟩
    rcases h4 with h4 | h4
    · exact .inl h4
    · exact .inr ⟨_, h4, Nat.le_refl _⟩
end

theorem Pushed.below {w w' : World} {v v' : Value} (h : Pushed w w' v v') {B : Nat} (hB : B ≤ w.heap.size) (hr : ∀ k, v.ownBlock = some k → B ≤ k) : Below B w w' := (Below.refl B w).grown h.grown hB hr
theorem Pushed.other {w w' : World} {v v' : Value} (h : Pushed w w' v v') {k : Nat} (hk : k < w.heap.size) (hne : v.ownBlock ≠ some k) : w'.heap[k]? = w.heap[k]? := h.grown.block k hk (fun e => hne e.symm)
theorem Pushed.size {w w' : World} {v v' : Value} (h : Pushed w w' v v') : w.heap.size ≤ w'.heap.size := h.grown.size
theorem Pushed.ne {w w' : World} {v v' : Value} (h : Pushed w w' v v') {k : Nat} (hk : k < w.heap.size) (hne : v.ownBlock ≠ some k) : v'.ownBlock ≠ some k := by
  rcases h.at' with e | ⟨g, e, hg⟩
  · rw [e]; exact hne
  · rw [e]; intro h; cases h; omega

end Go.Proofs.Ytmkkkhlalacaiaa

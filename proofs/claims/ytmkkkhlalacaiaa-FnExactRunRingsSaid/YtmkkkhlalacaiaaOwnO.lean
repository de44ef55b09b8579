/- Slices of calls that the code itself makes and appends to. -/
import Derived.Test.YtmkkkhlalacaiaaRun
namespace Go.Proofs.Ytmkkkhlalacaiaa
open Go.RowKit
open Go.Proofs.Ytmkkkhlalacaiaa.Rm
set_option linter.unusedVariables false

/-- The cells of calls. -/
def opc (p : OpV) : List Value := [.string p.kind, .int .u16 (p.at' : Int), .int .u16 (p.to : Int), .int .i64 p.n]
def opcs (ps : List OpV) : List Value := ps.flatMap opc
theorem opcs_len (ps : List OpV) : (opcs ps).length = ps.length * 4 := by
  induction ps with
  | nil => rfl
  | cons p ps ih => simp only [opcs, List.flatMap_cons, List.length_append, List.length_cons] at ih ⊢; rw [ih]; simp [opc]; omega
theorem opcs_append (ps qs : List OpV) : opcs (ps ++ qs) = opcs ps ++ opcs qs := by simp [opcs]
theorem opcs_one (ps : List OpV) : ∀ u, u ∈ opcs ps → u.oneCell' = true := by
  intro u hu
  simp only [opcs, List.mem_flatMap] at hu
  obtain ⟨p, _, h⟩ := hu
  simp only [opc, List.mem_cons, List.not_mem_nil, or_false] at h
  rcases h with rfl | rfl | rfl | rfl <;> rfl
theorem opcs_get {ps : List OpV} {i : Nat} {p : OpV} (h : ps[i]? = some p) (j : Nat) (hj : j < 4) : (opcs ps)[i * 4 + j]? = (opc p)[j]? := by
  induction ps generalizing i with
  | nil => simp at h
  | cons q ps ih =>
    have hq : (opc q).length = 4 := rfl
    cases i with
    | zero =>
      obtain rfl : q = p := by simpa using h
      simp only [opcs, List.flatMap_cons, Nat.zero_mul, Nat.zero_add]
      rw [List.getElem?_append_left (by omega)]
    | succ i =>
      have := ih (by simpa using h)
      simp only [opcs, List.flatMap_cons] at this ⊢
      rw [List.getElem?_append_right (by omega), hq, show (i + 1) * 4 + j - 4 = i * 4 + j by omega]
      exact this
/-- The slice value v owns, from block 'base' on, a row of calls. -/
def OwnO (E : TypeId) (base : Nat) (w : World) (v : Value) (ps : List OpV) : Prop := w.ownsRow base E 4 v ps.length (opcs ps)
theorem OwnO.alloc {E : TypeId} {base : Nat} {w : World} {v : Value} {ps : List OpV} (h : OwnO E base w v ps) (o : Obj) : OwnO E base (w.alloc o) v ps := World.ownsRow.alloc h o
theorem OwnO.drew {E : TypeId} {base : Nat} {w : World} {v : Value} {ps : List OpV} (h : OwnO E base w v ps) : OwnO E base w.drew v ps := h
theorem OwnO.lt {E : TypeId} {base : Nat} {w : World} {v : Value} {ps : List OpV} (h : OwnO E base w v ps) {k : Nat} (hk : v.ownBlock = some k) : base ≤ k ∧ k < w.heap.size := World.ownsRow.lt h k hk
theorem OwnO.keep {E : TypeId} {base : Nat} {w w' : World} {v : Value} {ps : List OpV} (h : OwnO E base w v ps) (hk : ∀ k, v.ownBlock = some k → w'.heap[k]? = w.heap[k]?) : OwnO E base w' v ps := by
  refine ⟨h.1, ?_⟩
  rcases h.2 with h2 | ⟨g, cap, cur, hv, hg, hh, r⟩
  · exact .inl h2
  · exact .inr ⟨g, cap, cur, hv, hg, by rw [hk g (by rw [hv]; rfl)]; exact hh, r⟩
theorem OwnO.below {E : TypeId} {base B : Nat} {w w' : World} {v : Value} {ps : List OpV} (h : OwnO E base w v ps) (hb : Below B w w') (hB : w.heap.size ≤ B) : OwnO E base w' v ps :=
  h.keep fun k hk => hb.block k (by have := (h.lt hk).2; omega)
theorem OwnO.empty (E : TypeId) (base : Nat) (w : World) (hb : base ≤ w.heap.size) : OwnO E base (w.alloc (.cells #[] E)) (.slice (some ⟨w.heap.size, 0, none⟩) 0 0) [] :=
  ⟨rfl, .inr ⟨w.heap.size, 0, #[], rfl, hb, heap_alloc_new w _, Nat.le_refl _, by unfold maxLen; omega, rfl, rfl⟩⟩
theorem OwnO.form {E : TypeId} {base : Nat} {w : World} {v : Value} {ps : List OpV} (h : OwnO E base w v ps) : ∃ a c, v = .slice a ps.length c := by
  rcases h.2 with ⟨rfl, h2⟩ | ⟨g, cap, cur, hv, _⟩
  · exact ⟨none, 0, by rw [h2]⟩
  · exact ⟨_, _, hv⟩
/-- What is owned can be read. -/
theorem OwnO.rd {E : TypeId} {base : Nat} {w : World} {v : Value} {ps : List OpV} (h : OwnO E base w v ps) : ∃ a c, v = .slice a ps.length c ∧ RdO w a ps.length c ps := by
  rcases h.2 with ⟨rfl, h2⟩ | ⟨g, cap, cur, hv, _, hh, h3, h4, h5, h6⟩
  · have : ps = [] := List.eq_nil_of_length_eq_zero h2
    subst this
    exact ⟨none, 0, rfl, ⟨rfl, Nat.le_refl _, by omega, fun i p h => by simp at h⟩⟩
  · refine ⟨_, _, hv, rfl, h3, h4, fun i p hp => ?_⟩
    have hi : i < ps.length := (List.getElem?_eq_some_iff.1 hp).1
    have key : ∀ j u, j < 4 → (opc p)[j]? = some u → w.cell? ⟨g, 0 + i * 4 + j, none⟩ = some u := by
      intro j u hj hu
      refine blk_cell (l := cur.toList) (by simpa using hh) ?_
      have e : cur.toList[0 + i * 4 + j]? = (cur.toList.take (ps.length * 4))[i * 4 + j]? := by rw [List.getElem?_take, if_pos (by omega), Nat.zero_add]
      rw [e, h6, opcs_get hp j hj, hu]
    exact ⟨g, 0, rfl, blk_lt hh, key 0 _ (by omega) rfl, key 1 _ (by omega) rfl, key 2 _ (by omega) rfl, key 3 _ (by omega) rfl⟩

section
variable {P : Program} {w : World} {ops : Array Oper} {rest : List Oper} {o : Oper} {a : Act} {Q : Exit → Act → World → Prop}
/-- append(out, p..), the elements in a block of their own. -/
theorem run_pushO (T E ty : TypeId) {z : Value} {bytes : Nat} (hu : P.underlying T = some (.slice E)) (hin : (P.info? E).map (fun i => (i.zero, i.size, i.bytes)) = some (some z, 4, bytes)) (hz : z.cells.size = 4)
    (base : Nat) (v : Value) (ps qs : List OpV) (m : Nat) (hm : qs.length = m) (hown : OwnO E base w v ps) (hlen : ps.length + m ≤ maxLen) (hbytes : (ps.length + m) * bytes ≤ 140737488355328) (hbase : base ≤ w.heap.size) :
    ∃ v' w', (Builtin.append_ #[T, T] ty #[v, .slice (some ⟨w.heap.size, 0, none⟩) m m]).run P (w.alloc (.cells (opcs qs).toArray E)) = .ok v' w' ∧ OwnO E base w' v' (ps ++ qs) ∧ Pushed w w' v v' := by
  obtain ⟨i0, hi, hz0, hz1, hz2⟩ := info_parts hin
  obtain ⟨v', w', h1, h2, h3, _, h4⟩ := run_append_own_at (P := P) (w.alloc (.cells (opcs qs).toArray E)) base T ty E i0 z 4 bytes hu hi hz0 hz1 hz2 hz (by omega) v ps.length (opcs ps) (hown.alloc _) ⟨w.heap.size, 0, none⟩ m m (opcs qs) (by rw [opcs_len, hm]) (by
    intro j u hj
    rw [Addr.add_lit]
    refine blk_cell (l := opcs qs) (heap_alloc_new w _) ?_
    rw [Nat.zero_add]; exact hj) (opcs_one qs) hlen hbytes (by simp; omega)
  refine ⟨v', w', h1, ?_, ⟨⟨h3.os, h3.tape, h3.output, Nat.le_trans (by simp) h3.size, fun k hk hne => ?_⟩, ?_⟩⟩
  · unfold OwnO
    rw [List.length_append, hm, opcs_append]
    exact h2
  · rw [h3.block k (by simp; omega) hne]; exact Below.heap_alloc _ _ _ hk
  · rcases h4 with h4 | h4
    · exact .inl h4
    · exact .inr ⟨_, h4, by simp⟩
theorem wpl_pushO (hgd : o.guard = none) (s x : Operand) (T E : TypeId) (ho : o.op = .call { callee := .builtin .append, args := #[s, x], argTypes := #[T, T] })
    {z : Value} {bytes : Nat} (hu : P.underlying T = some (.slice E)) (hin : (P.info? E).map (fun i => (i.zero, i.size, i.bytes)) = some (some z, 4, bytes)) (hz : z.cells.size = 4)
    (base : Nat) (v : Value) (ps qs : List OpV) (m : Nat) (cs : Array Value) (hcs : cs = (opcs qs).toArray) (hm : qs.length = m) (hs : a.eval s = v) (hx : a.eval x = .slice (some ⟨w.heap.size, 0, none⟩) m m)
    (hown : OwnO E base w v ps) (hlen : ps.length + m ≤ maxLen) (hbytes : (ps.length + m) * bytes ≤ 140737488355328) (hbase : base ≤ w.heap.size)
    (h : ∀ v' w', OwnO E base w' v' (ps ++ qs) → Pushed w w' v v' → wpList P ops Q rest (a.put o.dst v') w') :
    wpList P ops Q (o :: rest) a (w.alloc (.cells cs E)) := by
  subst hcs
  obtain ⟨v', w', hr, h1, h2⟩ := run_pushO (P := P) (w := w) T E o.type hu hin hz base v ps qs m hm hown hlen hbytes hbase
  refine wpList_plain hgd fun K hK => ?_
  unfold Oper.wp execOp
  simp only [ho, resolve, invoke, builtin, Sem.run_bind, Sem.run_pure, Result.andThen_ok, List.map_toArray, List.map_cons, List.map_nil, hs, hx, hr]
  exact hK _ _ (h v' w' h1 h2)
end
/-- .. as a step of a region that draws its order. -/
theorem step_pushO {P : Program} {ops : Array Oper} {o : Oper} {a : Act} {w : World} {K : Act → World → Prop} {Q : Exit → Act → World → Prop} {E' : Prop} (hgd : o.guard = none) (s x : Operand) (T E : TypeId) (ho : o.op = .call { callee := .builtin .append, args := #[s, x], argTypes := #[T, T] })
    {z : Value} {bytes : Nat} (hu : P.underlying T = some (.slice E)) (hin : (P.info? E).map (fun i => (i.zero, i.size, i.bytes)) = some (some z, 4, bytes)) (hz : z.cells.size = 4)
    (base : Nat) (v : Value) (ps qs : List OpV) (m : Nat) (cs : Array Value) (hcs : cs = (opcs qs).toArray) (hm : qs.length = m) (hs : a.eval s = v) (hx : a.eval x = .slice (some ⟨w.heap.size, 0, none⟩) m m)
    (hown : OwnO E base w v ps) (hlen : ps.length + m ≤ maxLen) (hbytes : (ps.length + m) * bytes ≤ 140737488355328) (hbase : base ≤ w.heap.size)
    (h : ∀ v' w', OwnO E base w' v' (ps ++ qs) → Pushed w w' v v' → K (a.put o.dst v') w') :
    if Region.wanted o (yielded ops a.tmps) = true then Oper.wp P o a (w.alloc (.cells cs E)) K Q else E' := by
  subst hcs
  have hw : Region.wanted o (yielded ops a.tmps) = true := by simp [Region.wanted, hgd]
  rw [if_pos hw]
  obtain ⟨v', w', hr, h1, h2⟩ := run_pushO (P := P) (w := w) T E o.type hu hin hz base v ps qs m hm hown hlen hbytes hbase
  unfold Oper.wp
  simp [execOp, ho, resolve, invoke, builtin, hs, hx, hr, Result.andThen]
  exact h v' w' h1 h2

end Go.Proofs.Ytmkkkhlalacaiaa

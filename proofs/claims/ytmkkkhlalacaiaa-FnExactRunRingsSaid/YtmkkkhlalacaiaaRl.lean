/- Lists of rings, as the reference keeps them, and what linking makes of them. No program is in sight. -/
import Derived.Test.YtmkkkhlalacaiaaRm
namespace Go.Proofs.Ytmkkkhlalacaiaa.Rm

/-- The list t holds all rings of f below N. -/
structure Rep (N : Nat) (f : Nat → Nat) (t : List (List Nat)) : Prop where
  ring : ∀ l, l ∈ t → ∃ x, Ring f x l
  lt : ∀ l, l ∈ t → ∀ i, i ∈ l → i < N
  all : ∀ i, i < N → ∃ l, l ∈ t ∧ i ∈ l

/-- A list from one of its elements on. -/
def turn (l : List Nat) (a : Nat) : List Nat := l.drop (l.idxOf a) ++ l.take (l.idxOf a)
/-- The ring of an element, from it on. -/
def from' : List (List Nat) → Nat → List Nat
  | [], _ => []
  | l :: t, a => if a ∈ l then turn l a else from' t a
/-- The rings without those of two elements. -/
def others (t : List (List Nat)) (a b : Nat) : List (List Nat) := t.filter fun l => !(decide (a ∈ l) || decide (b ∈ l))

theorem turn_ring {f : Nat → Nat} {x a : Nat} {l : List Nat} (h : Ring f x l) (ha : a ∈ l) : Ring f a (turn l a) := by
  have hlt := List.idxOf_lt_length_iff.2 ha
  have e : l.drop (l.idxOf a) = a :: l.drop (l.idxOf a + 1) := by
    rw [List.drop_eq_getElem_cons hlt, List.getElem_idxOf hlt]
  have e2 : l = l.take (l.idxOf a) ++ a :: l.drop (l.idxOf a + 1) := by rw [← e, List.take_append_drop]
  unfold turn
  rw [e]
  exact Ring.turn (x := x) (e2 ▸ h)
theorem turn_mem {l : List Nat} {a i : Nat} : i ∈ turn l a ↔ i ∈ l := by
  unfold turn
  rw [List.mem_append, Or.comm, ← List.mem_append, List.take_append_drop]
theorem turn_length (l : List Nat) (a : Nat) : (turn l a).length = l.length := by
  unfold turn; simp only [List.length_append, List.length_drop, List.length_take]; omega

theorem Rep.from_ring {N : Nat} {f : Nat → Nat} {t : List (List Nat)} (h : Rep N f t) {a : Nat} (ha : a < N) : Ring f a (from' t a) := by
  obtain ⟨l0, hl0, hm⟩ := h.all a ha
  have hr := h.ring
  clear h
  induction t with
  | nil => cases hl0
  | cons l t ih =>
    simp only [from']
    by_cases hal : a ∈ l
    · rw [if_pos hal]
      obtain ⟨x, hx⟩ := hr l (by simp)
      exact turn_ring hx hal
    · rw [if_neg hal]
      rcases List.mem_cons.1 hl0 with rfl | hl0
      · exact absurd hm hal
      · exact ih hl0 (fun l hl => hr l (by simp [hl]))
/-- Every ring of the list that holds a has the elements of the ring of a. -/
theorem Rep.same {N : Nat} {f : Nat → Nat} {t : List (List Nat)} (h : Rep N f t) {a : Nat} {l r : List Nat} (hl : l ∈ t) (ha : a ∈ l) (hr : Ring f a r) (i : Nat) : i ∈ l ↔ i ∈ r := by
  obtain ⟨x, hx⟩ := h.ring l hl
  have := (turn_ring hx ha).unique hr
  rw [← this, turn_mem]
theorem Rep.from_lt {N : Nat} {f : Nat → Nat} {t : List (List Nat)} (h : Rep N f t) {a : Nat} (ha : a < N) {i : Nat} (hi : i ∈ from' t a) : i < N := by
  obtain ⟨l, hl, hm⟩ := h.all a ha
  exact h.lt l hl i ((h.same hl hm (h.from_ring ha) i).2 hi)

/-- What the reference's Link makes of a list of rings. -/
def link (t : List (List Nat)) (a b : Nat) : List (List Nat) :=
  let la := from' t a
  if b ∈ la then
    let k := if a = b then la.length else la.idxOf b
    others t a b ++ [a :: la.drop k] ++ (if (la.take k).drop 1 = [] then [] else [(la.take k).drop 1])
  else others t a b ++ [a :: from' t b ++ la.tail]

theorem mem_others {t : List (List Nat)} {a b : Nat} {l : List Nat} : l ∈ others t a b ↔ l ∈ t ∧ a ∉ l ∧ b ∉ l := by
  simp [others]

/-- Linking, ring by ring: what is told of new rings covers all. -/
theorem Rep.mk_link {N : Nat} {f g : Nat → Nat} {t : List (List Nat)} (h : Rep N f t) (hi : Inv N f g) {a b : Nat} (ha : a < N) (hb : b < N) {ls : List (List Nat)}
    (hr : ∀ l, l ∈ ls → ∃ x, Ring (lnx f g a b) x l) (hl : ∀ i, (∃ l, l ∈ ls ∧ i ∈ l) ↔ i ∈ from' t a ∨ i ∈ from' t b) : Rep N (lnx f g a b) (others t a b ++ ls) := by
  refine ⟨?_, ?_, ?_⟩
  · intro l hl0
    rcases List.mem_append.1 hl0 with h1 | h1
    · obtain ⟨h2, h3, h4⟩ := mem_others.1 h1
      obtain ⟨x, hx⟩ := h.ring l h2
      refine ⟨x, hx.congr ?_⟩
      intro k hk
      have : k ≠ g b := by
        intro e
        have := hx.next_mem hk
        rw [e, hi.np b hb] at this
        exact h4 this
      unfold lnx
      rw [upd_ne _ this, upd_ne _ (show k ≠ a from fun e => h3 (by rw [← e]; exact hk))]
    · exact hr l h1
  · intro l hl0 i him
    rcases List.mem_append.1 hl0 with h1 | h1
    · exact h.lt l (mem_others.1 h1).1 i him
    · rcases (hl i).1 ⟨l, h1, him⟩ with h2 | h2
      · exact h.from_lt ha h2
      · exact h.from_lt hb h2
  · intro i hlt
    obtain ⟨l, hl1, hl2⟩ := h.all i hlt
    by_cases c1 : a ∈ l
    · obtain ⟨l', h1, h2⟩ := (hl i).2 (.inl ((h.same hl1 c1 (h.from_ring ha) i).1 hl2))
      exact ⟨l', List.mem_append.2 (.inr h1), h2⟩
    · by_cases c2 : b ∈ l
      · obtain ⟨l', h1, h2⟩ := (hl i).2 (.inr ((h.same hl1 c2 (h.from_ring hb) i).1 hl2))
        exact ⟨l', List.mem_append.2 (.inr h1), h2⟩
      · exact ⟨l, List.mem_append.2 (.inl (mem_others.2 ⟨hl1, c1, c2⟩)), hl2⟩

theorem ring_last {N : Nat} {f g : Nat → Nat} (hi : Inv N f g) {x : Nat} {l : List Nat} (h : Ring f x l) (hl : ∀ i, i ∈ l → i < N) : ∃ s, l = s ++ [g x] := by
  have e := List.dropLast_concat_getLast h.ne
  refine ⟨l.dropLast, ?_⟩
  have p := h.path
  rw [← e] at p
  have := p.last
  have m := hl _ (List.getLast_mem h.ne)
  rw [← this, hi.pn _ m, e]

/-- Two rings become one. -/
theorem link_two {N : Nat} {f g : Nat → Nat} (hi : Inv N f g) {a b : Nat} {la lb : List Nat} (ha : Ring f a la) (hb : Ring f b lb) (hlb : ∀ i, i ∈ lb → i < N)
    (hd : b ∉ la) : Ring (lnx f g a b) a (a :: lb ++ la.tail) := by
  obtain ⟨ta, rfl, p1, n1⟩ := ha.cons
  obtain ⟨s, rfl⟩ := ring_last hi hb hlb
  have hbN : b < N := hlb b hb.mem
  -- the two rings share nothing
  have dis : ∀ i, i ∈ a :: ta → i ∉ s ++ [g b] := by
    intro i h1 h2
    obtain ⟨u1, u2, e1⟩ := List.append_of_mem h1
    obtain ⟨v1, v2, e2⟩ := List.append_of_mem h2
    have r1 : Ring f i (i :: u2 ++ u1) := Ring.turn (x := a) (e1 ▸ ha)
    have r2 : Ring f i (i :: v2 ++ v1) := Ring.turn (x := b) (e2 ▸ hb)
    have e := r1.unique r2
    have hb' := hb.mem
    rw [e2] at hb'
    have : b ∈ i :: v2 ++ v1 := by simp at hb' ⊢; rcases hb' with h | h | h <;> simp [h]
    rw [← e] at this
    apply hd
    rw [e1]
    simp at this ⊢
    rcases this with h | h | h <;> simp [h]
  have hga : a ≠ g b := fun e => dis a (by simp) (by rw [e]; simp)
  have hnd := hb.nodup
  rw [List.nodup_append] at hnd
  obtain ⟨u, q1, q2⟩ := hb.path.split
  obtain rfl : g b = u := q2.1
  have e1 : lnx f g a b a = b := by unfold lnx; rw [upd_ne _ hga, upd_same]
  have e2 : lnx f g a b (g b) = f a := by unfold lnx; rw [upd_same]
  have e3 : ∀ k, k ≠ a → k ≠ g b → lnx f g a b k = f k := fun k h1 h2 => by unfold lnx; rw [upd_ne _ h2, upd_ne _ h1]
  have s1 : Path (lnx f g a b) b s (g b) := q1.congr fun k hk => e3 k (fun e => dis a (by simp) (by rw [← e]; simp [hk])) (fun e => hnd.2.2 k hk (g b) (by simp) e)
  have s2 : Path (lnx f g a b) (f a) ta a := p1.congr fun k hk => e3 k (fun e => n1 (e ▸ hk)) (fun e => dis k (by simp [hk]) (by rw [e]; simp))
  refine ⟨?_, ?_, by simp⟩
  · show a = a ∧ Path (lnx f g a b) (lnx f g a b a) (s ++ [g b] ++ ta) a
    refine ⟨rfl, ?_⟩
    rw [e1]
    refine (s1.append (l := s) (r := [g b]) (z := f a) ⟨rfl, e2⟩).append s2
  · show (a :: (s ++ [g b] ++ ta)).Nodup
    have na := ha.nodup
    rw [List.nodup_cons] at na ⊢
    refine ⟨?_, ?_⟩
    · intro hm
      rcases List.mem_append.1 hm with h | h
      · exact dis a (by simp) h
      · exact na.1 h
    · rw [List.nodup_append]
      exact ⟨hb.nodup, na.2, fun x hx y hy e => dis y (by simp [hy]) (e ▸ hx)⟩

/-- One ring becomes two: b behind a, with m between. -/
theorem link_part {N : Nat} {f g : Nat → Nat} (hi : Inv N f g) {a b : Nat} {m r : List Nat} (h : Ring f a (a :: m ++ b :: r)) (hl : ∀ i, i ∈ a :: m ++ b :: r → i < N) :
    Ring (lnx f g a b) a (a :: b :: r) ∧ (m ≠ [] → Ring (lnx f g a b) (f a) m) := by
  have hnd := h.nodup
  obtain ⟨u, p1, p2⟩ := h.path.split
  obtain rfl : b = u := p2.1
  have hm : Path f (f a) m b := p1.2
  rw [List.nodup_append] at hnd
  have na := List.nodup_cons.1 hnd.1
  have nb := List.nodup_cons.1 hnd.2.1
  by_cases c : m = []
  · subst c
    have e : f a = b := hm
    have e0 : g b = a := by rw [← e]; exact hi.pn a (hl a (by simp))
    have e1 : ∀ k, lnx f g a b k = f k := by
      intro k; unfold lnx upd; rw [e0]; by_cases h1 : k = a
      · rw [if_pos h1, h1]
      · rw [if_neg h1, if_neg h1]
    exact ⟨h.congr fun k _ => e1 k, fun h => absurd rfl h⟩
  · obtain ⟨s, z, rfl⟩ : ∃ s z, m = s ++ [z] := ⟨m.dropLast, m.getLast c, (List.dropLast_concat_getLast c).symm⟩
    have ez : f z = b := hm.last
    have hz : g b = z := by rw [← ez]; exact hi.pn z (hl z (by simp))
    have hza : a ≠ z := fun e => na.1 (by rw [e]; simp)
    have e1 : lnx f g a b a = b := by unfold lnx; rw [hz, upd_ne _ hza, upd_same]
    have e2 : lnx f g a b z = f a := by unfold lnx; rw [hz, upd_same]
    have e3 : ∀ k, k ≠ a → k ≠ z → lnx f g a b k = f k := fun k h1 h2 => by unfold lnx; rw [hz, upd_ne _ h2, upd_ne _ h1]
    have s1 : Path (lnx f g a b) b (b :: r) a := p2.congr fun k hk => e3 k (fun e => hnd.2.2 a (by simp) k hk e.symm) (fun e => hnd.2.2 z (by simp) k hk e.symm)
    have ns := na.2
    rw [List.nodup_append] at ns
    obtain ⟨u, q1, q2⟩ := hm.split
    obtain rfl : z = u := q2.1
    have s2 : Path (lnx f g a b) (f a) s z := q1.congr fun k hk => e3 k (fun e => na.1 (by rw [← e]; simp [hk])) (fun e => ns.2.2 k hk z (by simp) e)
    refine ⟨⟨⟨rfl, by rw [e1]; exact s1⟩, ?_, by simp⟩, fun _ => ⟨s2.append (z := f a) ⟨rfl, e2⟩, na.2, by simp⟩⟩
    rw [List.nodup_cons]
    exact ⟨fun hm => hnd.2.2 a (by simp) a hm rfl, hnd.2.1⟩
/-- One ring becomes two: an element linked with itself. -/
theorem link_self {N : Nat} {f g : Nat → Nat} (hi : Inv N f g) {a : Nat} {m : List Nat} (h : Ring f a (a :: m)) (hl : ∀ i, i ∈ a :: m → i < N) :
    Ring (lnx f g a a) a [a] ∧ (m ≠ [] → Ring (lnx f g a a) (f a) m) := by
  have na := List.nodup_cons.1 h.nodup
  have hm : Path f (f a) m a := h.path.2
  by_cases c : m = []
  · subst c
    have e : f a = a := hm
    have e0 : g a = a := by conv => lhs; rw [← e]
                            exact hi.pn a (hl a (by simp))
    refine ⟨h.congr fun k hk => ?_, fun h => absurd rfl h⟩
    obtain rfl : k = a := by simpa using hk
    unfold lnx; rw [e0, upd_same]
  · obtain ⟨s, z, rfl⟩ : ∃ s z, m = s ++ [z] := ⟨m.dropLast, m.getLast c, (List.dropLast_concat_getLast c).symm⟩
    have ez : f z = a := hm.last
    have hz : g a = z := by rw [← ez]; exact hi.pn z (hl z (by simp))
    have hza : a ≠ z := fun e => na.1 (by rw [e]; simp)
    have e1 : lnx f g a a a = a := by unfold lnx; rw [hz, upd_ne _ hza, upd_same]
    have e2 : lnx f g a a z = f a := by unfold lnx; rw [hz, upd_same]
    have e3 : ∀ k, k ≠ a → k ≠ z → lnx f g a a k = f k := fun k h1 h2 => by unfold lnx; rw [hz, upd_ne _ h2, upd_ne _ h1]
    have ns := na.2
    rw [List.nodup_append] at ns
    obtain ⟨u, q1, q2⟩ := hm.split
    obtain rfl : z = u := q2.1
    have s2 : Path (lnx f g a a) (f a) s z := q1.congr fun k hk => e3 k (fun e => na.1 (by rw [← e]; simp [hk])) (fun e => ns.2.2 k hk z (by simp) e)
    exact ⟨⟨⟨rfl, e1⟩, by simp, by simp⟩, fun _ => ⟨s2.append (z := f a) ⟨rfl, e2⟩, na.2, by simp⟩⟩

theorem Rep.link {N : Nat} {f g : Nat → Nat} {t : List (List Nat)} (h : Rep N f t) (hi : Inv N f g) {a b : Nat} (ha : a < N) (hb : b < N) : Rep N (lnx f g a b) (link t a b) := by
  have ra := h.from_ring ha
  have rb := h.from_ring hb
  unfold Rm.link
  by_cases c : b ∈ from' t a
  · rw [if_pos c]
    -- the ring of b has the elements of that of a
    have same : ∀ i, i ∈ from' t b ↔ i ∈ from' t a := by
      intro i
      have := (turn_ring ra c).unique rb
      rw [← this, turn_mem]
    by_cases e : a = b
    · subst e
      simp only [if_true]
      obtain ⟨m, em, p, n⟩ := ra.cons
      have hl : ∀ i, i ∈ a :: m → i < N := fun i hi => h.from_lt ha (em ▸ hi)
      obtain ⟨k1, k2⟩ := link_self hi (em ▸ ra) hl
      rw [List.append_assoc]
      refine h.mk_link hi ha hb ?_ ?_
      · intro l hl0
        rw [em] at hl0
        simp at hl0
        rcases hl0 with rfl | ⟨hm, rfl⟩
        · exact ⟨a, k1⟩
        · exact ⟨_, k2 hm⟩
      · intro i
        rw [em]
        simp
        by_cases hm : m = []
        · simp [hm]
        · simp [hm]
    · simp only [if_neg e]
      obtain ⟨m0, em, p, n⟩ := ra.cons
      have hbm : b ∈ m0 := by rw [em] at c; simpa [Ne.symm e] using c
      have hlt := List.idxOf_lt_length_iff.2 hbm
      have ei : (from' t a).idxOf b = m0.idxOf b + 1 := by rw [em, List.idxOf_cons, show (a == b) = false from beq_eq_false_iff_ne.2 e]; rfl
      have e1 : m0 = m0.take (m0.idxOf b) ++ b :: m0.drop (m0.idxOf b + 1) := by
        conv => lhs; rw [← List.take_append_drop (m0.idxOf b) m0, List.drop_eq_getElem_cons hlt, List.getElem_idxOf hlt]
      have d1 : (from' t a).drop ((from' t a).idxOf b) = b :: m0.drop (m0.idxOf b + 1) := by
        rw [ei, em, List.drop_succ_cons, List.drop_eq_getElem_cons hlt, List.getElem_idxOf hlt]
      have d2 : ((from' t a).take ((from' t a).idxOf b)).drop 1 = m0.take (m0.idxOf b) := by
        rw [ei, em]; simp
      have hl : ∀ i, i ∈ a :: m0 → i < N := fun i hi => h.from_lt ha (em ▸ hi)
      have em' : from' t a = a :: m0.take (m0.idxOf b) ++ b :: m0.drop (m0.idxOf b + 1) := by rw [List.cons_append, ← e1]; exact em
      obtain ⟨k1, k2⟩ := link_part hi (em' ▸ ra) (fun i hi => h.from_lt ha (em' ▸ hi))
      rw [List.append_assoc, d1, d2]
      generalize hm1 : m0.take (m0.idxOf b) = m1 at *
      generalize hm2 : m0.drop (m0.idxOf b + 1) = m2 at *
      refine h.mk_link hi ha hb ?_ ?_
      · intro l hl0
        simp at hl0
        rcases hl0 with rfl | ⟨hm, rfl⟩
        · exact ⟨a, k1⟩
        · exact ⟨_, k2 hm⟩
      · intro i
        rw [same i, em']
        by_cases hm : m1 = []
        · simp [hm]
        · simp [hm]
          constructor
          · rintro ((q | q | q) | q) <;> simp [q]
          · rintro (q | q | q | q) <;> simp [q]
  · rw [if_neg c]
    have k := link_two hi ra rb (fun i hi => h.from_lt hb hi) c
    refine h.mk_link hi ha hb ?_ ?_
    · intro l hl0
      simp at hl0
      subst hl0
      exact ⟨a, by simpa using k⟩
    · intro i
      obtain ⟨m, em, p, n⟩ := ra.cons
      simp [em]
      constructor
      · rintro (h | h | h) <;> simp [h]
      · rintro ((h | h) | h) <;> simp [h]

end Go.Proofs.Ytmkkkhlalacaiaa.Rm

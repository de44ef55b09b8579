/- The plain mathematics of rings: a ring is a cycle of a function on numbers. No program is in sight. -/
namespace Go.Proofs.Ytmkkkhlalacaiaa.Rm

/-- A function changed at one place. -/
def upd (f : Nat → Nat) (i v : Nat) : Nat → Nat := fun k => if k = i then v else f k
theorem upd_same (f : Nat → Nat) (i v : Nat) : upd f i v i = v := by simp [upd]
theorem upd_ne (f : Nat → Nat) {i v k : Nat} (h : k ≠ i) : upd f i v k = f k := by simp [upd, h]

/-- A function applied so many times. -/
def it (f : Nat → Nat) : Nat → Nat → Nat
  | 0, i => i
  | n + 1, i => it f n (f i)
theorem it_add (f : Nat → Nat) (a b i : Nat) : it f (a + b) i = it f b (it f a i) := by
  induction a generalizing i with
  | zero => simp [it]
  | succ a ih => rw [show a + 1 + b = (a + b) + 1 from by omega]; simp only [it]; exact ih (f i)
theorem it_one (f : Nat → Nat) (i : Nat) : it f 1 i = f i := rfl
theorem it_last (f : Nat → Nat) (n i : Nat) : it f (n + 1) i = f (it f n i) := by rw [it_add]; rfl

/-- nx and pv undo each other, below N. -/
structure Inv (N : Nat) (nx pv : Nat → Nat) : Prop where
  nlt : ∀ i, i < N → nx i < N
  plt : ∀ i, i < N → pv i < N
  pn : ∀ i, i < N → pv (nx i) = i
  np : ∀ i, i < N → nx (pv i) = i

theorem Inv.flip {N : Nat} {nx pv : Nat → Nat} (h : Inv N nx pv) : Inv N pv nx := ⟨h.plt, h.nlt, h.np, h.pn⟩
theorem Inv.inj {N : Nat} {nx pv : Nat → Nat} (h : Inv N nx pv) {i j : Nat} (hi : i < N) (hj : j < N) (e : nx i = nx j) : i = j := by
  rw [← h.pn i hi, e, h.pn j hj]
theorem Inv.it_lt {N : Nat} {nx pv : Nat → Nat} (h : Inv N nx pv) (k : Nat) {i : Nat} (hi : i < N) : it nx k i < N := by
  induction k generalizing i with
  | zero => exact hi
  | succ k ih => exact ih (h.nlt i hi)
theorem Inv.it_inj {N : Nat} {nx pv : Nat → Nat} (h : Inv N nx pv) (k : Nat) {i j : Nat} (hi : i < N) (hj : j < N) (e : it nx k i = it nx k j) : i = j := by
  induction k generalizing i j with
  | zero => exact e
  | succ k ih => exact h.inj hi hj (ih (h.nlt i hi) (h.nlt j hj) e)
theorem Inv.it_back {N : Nat} {nx pv : Nat → Nat} (h : Inv N nx pv) (k : Nat) {i : Nat} (hi : i < N) : it nx k (it pv k i) = i := by
  induction k generalizing i with
  | zero => rfl
  | succ k ih =>
    rw [it_last pv]
    show it nx k (nx (pv (it pv k i))) = i
    rw [h.np _ (h.flip.it_lt k hi)]
    exact ih hi

/-- What Link makes of nx and pv. -/
def lnx (nx pv : Nat → Nat) (i j : Nat) : Nat → Nat := upd (upd nx i j) (pv j) (nx i)
def lpv (nx pv : Nat → Nat) (i j : Nat) : Nat → Nat := upd (upd pv j i) (nx i) (pv j)

theorem Inv.link {N : Nat} {nx pv : Nat → Nat} (h : Inv N nx pv) {i j : Nat} (hi : i < N) (hj : j < N) : Inv N (lnx nx pv i j) (lpv nx pv i j) := by
  have a1 := h.nlt i hi
  have a2 := h.plt j hj
  have a3 := h.pn i hi
  have a4 := h.np j hj
  refine ⟨?_, ?_, ?_, ?_⟩
  · intro k hk; have := h.nlt k hk; simp only [lnx, upd]; split; exact a1; split <;> assumption
  · intro k hk; have := h.plt k hk; simp only [lpv, upd]; split; exact a2; split <;> assumption
  · intro k hk
    have b1 := h.pn k hk
    simp only [lnx, lpv, upd]
    by_cases c1 : k = pv j
    · subst c1; simp
    · by_cases c2 : k = i
      · subst c2
        simp only [if_neg c1, if_true]
        by_cases c3 : j = nx k
        · rw [if_pos c3]; rw [c3, a3] at c1; exact absurd rfl c1
        · rw [if_neg c3]
      · simp only [if_neg c1, if_neg c2]
        by_cases c3 : nx k = nx i
        · exact absurd (h.inj hk hi c3) c2
        · rw [if_neg c3]
          by_cases c4 : nx k = j
          · rw [← c4, b1] at c1; exact absurd rfl c1
          · rw [if_neg c4]; exact b1
  · intro k hk
    have b1 := h.np k hk
    simp only [lnx, lpv, upd]
    by_cases c1 : k = nx i
    · subst c1; simp
    · by_cases c2 : k = j
      · subst c2
        simp only [if_neg c1, if_true]
        by_cases c3 : i = pv k
        · rw [if_pos c3]; rw [c3, a4] at c1; exact absurd rfl c1
        · rw [if_neg c3]
      · simp only [if_neg c1, if_neg c2]
        by_cases c3 : pv k = pv j
        · exact absurd (h.flip.inj hk hj c3) c2
        · rw [if_neg c3]
          by_cases c4 : pv k = i
          · rw [← c4, b1] at c1; exact absurd rfl c1
          · rw [if_neg c4]; exact b1

/-- The elements that f leads through, from x on, till it comes to y. -/
def Path (f : Nat → Nat) : Nat → List Nat → Nat → Prop
  | x, [], y => x = y
  | x, z :: l, y => z = x ∧ Path f (f x) l y

theorem Path.append {f : Nat → Nat} {x y z : Nat} {l r : List Nat} (h : Path f x l y) (k : Path f y r z) : Path f x (l ++ r) z := by
  induction l generalizing x with
  | nil => cases h; exact k
  | cons a l ih => exact ⟨h.1, ih h.2⟩
theorem Path.split {f : Nat → Nat} {x z : Nat} {l r : List Nat} (h : Path f x (l ++ r) z) : ∃ y, Path f x l y ∧ Path f y r z := by
  induction l generalizing x with
  | nil => exact ⟨x, rfl, h⟩
  | cons a l ih =>
    obtain ⟨y, h1, h2⟩ := ih h.2
    exact ⟨y, ⟨h.1, h1⟩, h2⟩
theorem Path.congr {f g : Nat → Nat} {x y : Nat} {l : List Nat} (h : Path f x l y) (e : ∀ k, k ∈ l → g k = f k) : Path g x l y := by
  induction l generalizing x with
  | nil => exact h
  | cons a l ih =>
    obtain ⟨rfl, h2⟩ := h
    refine ⟨rfl, ?_⟩
    rw [e a (by simp)]
    exact ih h2 (fun k hk => e k (by simp [hk]))
theorem Path.head {f : Nat → Nat} {x y : Nat} {z : Nat} {l : List Nat} (h : Path f x (z :: l) y) : z = x := h.1
theorem Path.last {f : Nat → Nat} {x y z : Nat} {l : List Nat} (h : Path f x (l ++ [z]) y) : f z = y := by
  obtain ⟨u, _, h2⟩ := h.split
  obtain ⟨rfl, h3⟩ := h2
  exact h3
theorem Path.end_it {f : Nat → Nat} {x y : Nat} {l : List Nat} (h : Path f x l y) : it f l.length x = y := by
  induction l generalizing x with
  | nil => exact h
  | cons a l ih => exact ih h.2
theorem Path.get {f : Nat → Nat} {x y : Nat} {l : List Nat} (h : Path f x l y) (k : Nat) (hk : k < l.length) : l[k]? = some (it f k x) := by
  induction l generalizing x k with
  | nil => simp at hk
  | cons a l ih =>
    cases k with
    | zero => simp [h.1, it]
    | succ k => simpa [it] using ih h.2 k (by simpa using hk)
/-- A path is told by its beginning and its length. -/
theorem Path.unique {f : Nat → Nat} {x y z : Nat} {l r : List Nat} (h : Path f x l y) (k : Path f x r z) (e : l.length = r.length) : l = r := by
  apply List.ext_getElem? 
  intro i
  by_cases hi : i < l.length
  · rw [h.get i hi, k.get i (by omega)]
  · rw [List.getElem?_eq_none (by omega), List.getElem?_eq_none (by omega)]

/-- A ring, from x on: no element twice, and the last one leads back. -/
structure Ring (f : Nat → Nat) (x : Nat) (l : List Nat) : Prop where
  path : Path f x l x
  nodup : l.Nodup
  ne : l ≠ []

theorem Ring.pos {f : Nat → Nat} {x : Nat} {l : List Nat} (h : Ring f x l) : 0 < l.length := List.length_pos_iff.2 h.ne
theorem Ring.mem {f : Nat → Nat} {x : Nat} {l : List Nat} (h : Ring f x l) : x ∈ l := by
  obtain ⟨p, _, n⟩ := h
  cases l with
  | nil => exact absurd rfl n
  | cons a l => simp [p.1]
theorem Ring.cons {f : Nat → Nat} {x : Nat} {l : List Nat} (h : Ring f x l) : ∃ t, l = x :: t ∧ Path f (f x) t x ∧ x ∉ t := by
  obtain ⟨p, d, n⟩ := h
  cases l with
  | nil => exact absurd rfl n
  | cons a l => obtain ⟨rfl, h2⟩ := p; exact ⟨l, rfl, h2, (List.nodup_cons.1 d).1⟩
theorem Ring.congr {f g : Nat → Nat} {x : Nat} {l : List Nat} (h : Ring f x l) (e : ∀ k, k ∈ l → g k = f k) : Ring g x l := ⟨h.path.congr e, h.nodup, h.ne⟩
/-- The same ring from another of its elements on. -/
theorem Ring.turn {f : Nat → Nat} {x y : Nat} {l r : List Nat} (h : Ring f x (l ++ y :: r)) : Ring f y (y :: r ++ l) := by
  obtain ⟨p, d, _⟩ := h
  obtain ⟨u, p1, p2⟩ := p.split
  obtain rfl : y = u := p2.1
  refine ⟨p2.append p1, ?_, by simp⟩
  rw [List.nodup_append] at d ⊢
  exact ⟨d.2.1, d.1, fun a ha b hb e => d.2.2 b hb a ha e.symm⟩
theorem Ring.next_mem {f : Nat → Nat} {x y : Nat} {l : List Nat} (h : Ring f x l) (hy : y ∈ l) : f y ∈ l := by
  obtain ⟨a, b, rfl⟩ := List.append_of_mem hy
  obtain ⟨u, p1, p2⟩ := h.path.split
  obtain ⟨rfl, p3⟩ := p2
  cases b with
  | nil => have e : f y = x := p3; rw [e]; exact h.mem
  | cons z b => rw [← p3.1]; simp
theorem Ring.it_mem {f : Nat → Nat} {x y : Nat} {l : List Nat} (h : Ring f x l) (k : Nat) (hy : y ∈ l) : it f k y ∈ l := by
  induction k generalizing y with
  | zero => exact hy
  | succ k ih => exact ih (h.next_mem hy)
/-- The ring of an element, from it on, is one. -/
theorem Ring.unique {f : Nat → Nat} {x : Nat} {l r : List Nat} (h : Ring f x l) (k : Ring f x r) : l = r := by
  have key : ∀ {l r : List Nat}, Ring f x l → Ring f x r → ¬ l.length < r.length := by
    intro l r h k hlt
    have e1 := h.path.end_it
    have e2 := k.path.get l.length hlt
    have e3 := k.path.get 0 k.pos
    rw [e1] at e2
    have e4 : r[0]? = some x := e3
    have p := h.pos
    have := (List.getElem?_inj k.pos k.nodup).1 (e4.trans e2.symm)
    omega
  have a := key h k
  have b := key k h
  exact h.path.unique k.path (by omega)
theorem Ring.it_len {f : Nat → Nat} {x : Nat} {l : List Nat} (h : Ring f x l) : it f l.length x = x := h.path.end_it
theorem Ring.it_mul {f : Nat → Nat} {x : Nat} {l : List Nat} (h : Ring f x l) (q : Nat) : it f (l.length * q) x = x := by
  induction q with
  | zero => rfl
  | succ q ih => rw [Nat.mul_succ, it_add, ih]; exact h.it_len
theorem Ring.it_mod {f : Nat → Nat} {x : Nat} {l : List Nat} (h : Ring f x l) (k : Nat) : it f k x = it f (k % l.length) x := by
  conv => lhs; rw [← Nat.div_add_mod k l.length]
  rw [it_add, h.it_mul]
/-- Going on by k elements comes to the element at the remainder. -/
theorem Ring.get {f : Nat → Nat} {x : Nat} {l : List Nat} (h : Ring f x l) (k : Nat) : l[k % l.length]? = some (it f k x) := by
  rw [h.path.get _ (Nat.mod_lt _ h.pos), ← h.it_mod]
/-- Going back by k elements. -/
theorem Ring.back {N : Nat} {nx pv : Nat → Nat} (hi : Inv N nx pv) {x : Nat} {l : List Nat} (h : Ring nx x l) (hx : x < N) (k : Nat) :
    it pv k x = it nx ((l.length - k % l.length) % l.length) x := by
  have p := h.pos
  have hm := Nat.mod_lt k p
  refine hi.it_inj k (hi.flip.it_lt k hx) (hi.it_lt _ hx) ?_
  rw [hi.it_back k hx, ← h.it_mod (l.length - k % l.length), ← it_add]
  have e : l.length - k % l.length + k = l.length * (k / l.length + 1) := by
    have := Nat.div_add_mod k l.length
    rw [Nat.mul_succ]; omega
  rw [e, h.it_mul]

end Go.Proofs.Ytmkkkhlalacaiaa.Rm

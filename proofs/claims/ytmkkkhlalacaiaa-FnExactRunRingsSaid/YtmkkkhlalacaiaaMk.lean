/- Rings made one behind another: the plain part of impl.made and spec.Made. -/
import Derived.Test.YtmkkkhlalacaiaaNew
namespace Go.Proofs.Ytmkkkhlalacaiaa
open Go.RowKit
open Go.Proofs.Ytmkkkhlalacaiaa.Rm
set_option linter.unusedVariables false

/-- How many elements the rings of some sizes have. -/
def szN (x : Int) : Nat := max x.toNat 1
def tot (xs : List Int) : Nat := (xs.map szN).sum
/-- The rings of some sizes, from number M on. -/
def mkFrom : Nat → List Int → List (List Nat)
  | _, [] => []
  | M, x :: xs => List.range' M (szN x) :: mkFrom (M + szN x) xs
def mk (xs : List Int) : List (List Nat) := mkFrom 0 xs
theorem tot_snoc (xs : List Int) (x : Int) : tot (xs ++ [x]) = tot xs + szN x := by simp [tot]
theorem mkFrom_snoc (xs : List Int) (x : Int) (M : Nat) : mkFrom M (xs ++ [x]) = mkFrom M xs ++ [List.range' (M + tot xs) (szN x)] := by
  induction xs generalizing M with
  | nil => simp [mkFrom, tot]
  | cons y ys ih =>
    have e : tot (y :: ys) = szN y + tot ys := by simp [tot]
    simp only [List.cons_append, mkFrom, ih, e, Nat.add_assoc]
theorem mk_snoc (xs : List Int) (x : Int) : mk (xs ++ [x]) = mk xs ++ [List.range' (tot xs) (szN x)] := by
  unfold mk; rw [mkFrom_snoc, Nat.zero_add]
theorem szN_pos (x : Int) : 1 ≤ szN x := by unfold szN; omega
theorem tot_take_le (xs : List Int) (k : Nat) : tot (xs.take k) ≤ tot xs := by
  have e : tot xs = tot (xs.take k) + tot (xs.drop k) := by
    conv => lhs; rw [← List.take_append_drop k xs]
    unfold tot; rw [List.map_append, List.sum_append_nat]
  omega

/-- A ring of m elements behind M others. -/
def jnx (M m : Nat) (nx : Nat → Nat) (k : Nat) : Nat := if k < M then nx k else if k + 1 = M + m then M else k + 1
def jpv (M m : Nat) (pv : Nat → Nat) (k : Nat) : Nat := if k < M then pv k else if k = M then M + m - 1 else k - 1
def jB (M : Nat) (Bk Bk2 : Nat → Nat) (k : Nat) : Nat := if k < M then Bk k else Bk2 (k - M)
theorem j_inv {M : Nat} {nx pv : Nat → Nat} (h : Inv M nx pv) (m : Nat) (hm : 1 ≤ m) : Inv (M + m) (jnx M m nx) (jpv M m pv) := by
  refine ⟨?_, ?_, ?_, ?_⟩ <;> intro i hi
  · have := h.nlt i
    simp only [jnx]; (repeat' split) <;> omega
  · have := h.plt i
    simp only [jpv]; (repeat' split) <;> omega
  · by_cases c : i < M
    · have a := h.nlt i c
      simp only [jnx, jpv, if_pos c, if_pos a]; exact h.pn i c
    · simp only [jnx, jpv, if_neg c]
      (repeat' split) <;> omega
  · by_cases c : i < M
    · have a := h.plt i c
      simp only [jnx, jpv, if_pos c, if_pos a]; exact h.np i c
    · simp only [jnx, jpv, if_neg c]
      (repeat' split) <;> omega
theorem j_path (M m : Nat) (nx : Nat → Nat) : ∀ k s : Nat, M ≤ s → s + k = M + m → 1 ≤ k → Path (jnx M m nx) s (List.range' s k) M
  | 0, _, _, _, h => by omega
  | 1, s, hs, h, _ => by
    refine ⟨rfl, ?_⟩
    show jnx M m nx s = M
    unfold jnx; rw [if_neg (by omega), if_pos h]
  | k + 2, s, hs, h, _ => by
    have ih := j_path M m nx (k + 1) (s + 1) (by omega) (by omega) (by omega)
    refine ⟨rfl, ?_⟩
    rw [show jnx M m nx s = s + 1 by unfold jnx; rw [if_neg (by omega), if_neg (by omega)]]
    exact ih
theorem j_ring (M m : Nat) (nx : Nat → Nat) (hm : 1 ≤ m) : Rm.Ring (jnx M m nx) M (List.range' M m) :=
  ⟨j_path M m nx m M (Nat.le_refl _) rfl hm, List.nodup_range', by simp; omega⟩
theorem j_rep {M : Nat} {nx : Nat → Nat} {t : List (List Nat)} (h : Rep M nx t) (m : Nat) (hm : 1 ≤ m) : Rep (M + m) (jnx M m nx) (t ++ [List.range' M m]) := by
  refine ⟨?_, ?_, ?_⟩
  · intro l hl
    rcases List.mem_append.1 hl with h1 | h1
    · obtain ⟨x, hx⟩ := h.ring l h1
      exact ⟨x, hx.congr fun k hk => by unfold jnx; rw [if_pos (h.lt l h1 k hk)]⟩
    · obtain rfl : l = _ := by simpa using h1
      exact ⟨M, j_ring M m nx hm⟩
  · intro l hl i hi
    rcases List.mem_append.1 hl with h1 | h1
    · have := h.lt l h1 i hi; omega
    · obtain rfl : l = _ := by simpa using h1
      rw [List.mem_range'_1] at hi; omega
  · intro i hi
    by_cases c : i < M
    · obtain ⟨l, h1, h2⟩ := h.all i c
      exact ⟨l, by simp [h1], h2⟩
    · exact ⟨List.range' M m, by simp, by rw [List.mem_range'_1]; omega⟩
theorem rep_none (nx : Nat → Nat) : Rep 0 nx [] := ⟨fun l h => (by cases h), fun l h => (by cases h), fun i h => (by omega)⟩

/-- Rings and a new ring, in one world. -/
theorem Rg.join {w : World} {Bk : Nat → Nat} {M : Nat} {nx pv : Nat → Nat} {val : Nat → Value} (h : Rg w Bk M nx pv val) {Bk2 : Nat → Nat} {m : Nat} {val2 : Nat → Value} (hm : 1 ≤ m) (h2 : Rg w Bk2 m (cnx m) (cpv m) val2)
    (hd : ∀ i j, i < M → j < m → Bk i ≠ Bk2 j) : Rg w (jB M Bk Bk2) (M + m) (jnx M m nx) (jpv M m pv) (fun k => if k < M then val k else val2 (k - M)) := by
  refine ⟨j_inv h.inv m hm, ?_, ?_⟩
  · intro i j hi hj e
    simp only [jB] at e
    by_cases c1 : i < M <;> by_cases c2 : j < M
    · rw [if_pos c1, if_pos c2] at e; exact h.inj i j c1 c2 e
    · rw [if_pos c1, if_neg c2] at e; exact absurd e (hd i (j - M) c1 (by omega))
    · rw [if_neg c1, if_pos c2] at e; exact absurd e.symm (hd j (i - M) c2 (by omega))
    · rw [if_neg c1, if_neg c2] at e; have := h2.inj _ _ (show i - M < m by omega) (show j - M < m by omega) e; omega
  · intro i hi
    by_cases c : i < M
    · have a := h.inv.nlt i c
      have b := h.inv.plt i c
      refine (h.cell i c).imp (fun q => ?_) (fun ⟨q1, q2, q3⟩ => ⟨?_, ?_, ?_⟩)
      · simp only [Live, jB, jnx, jpv, if_pos c, if_pos a, if_pos b]; exact q
      · simp only [jnx, if_pos c]; exact q1
      · simp only [jpv, if_pos c]; exact q2
      · simp only [jB, if_pos c]; exact q3
    · have e1 : jnx M m nx i = M + cnx m (i - M) := by unfold jnx cnx; rw [if_neg c]; split <;> split <;> omega
      have e2 : jpv M m pv i = M + cpv m (i - M) := by unfold jpv cpv; rw [if_neg c]; split <;> split <;> omega
      have f : ∀ q, jB M Bk Bk2 (M + q) = Bk2 q := fun q => by unfold jB; rw [if_neg (by omega), Nat.add_sub_cancel_left]
      refine (h2.cell (i - M) (by omega)).imp (fun q => ?_) (fun ⟨q1, q2, q3⟩ => ⟨?_, ?_, ?_⟩)
      · simp only [Live, e1, e2, f, if_neg c]
        simp only [jB, if_neg c]; exact q
      · rw [e1, q1]; omega
      · rw [e2, q2]; omega
      · simp only [jB, if_neg c]; exact q3

/-- The values of elements: those below cnt have their index. -/
def vals (cnt k : Nat) : Value := if k < cnt then .iface 3 (.int .i64 (k : Int)) else .nilIface
/-- Elements that are made, and the slice of those that are numbered. -/
structure Mk (w0 w : World) (v : Value) (N cnt : Nat) (Bk nx pv : Nat → Nat) : Prop where
  rg : Rg w Bk N nx pv (vals cnt)
  own : Own 54 w0.heap.size w v ((List.range cnt).map fun k => ptr (Bk k))
  hi : ∀ k, k < N → w0.heap.size ≤ Bk k
  ne : ∀ k, k < N → v.ownBlock ≠ some (Bk k)
  below : Below w0.heap.size w0 w

theorem Mk.start (w : World) (nx pv Bk : Nat → Nat) : Mk w (w.alloc (.cells #[] 54)) (.slice (some ⟨w.heap.size, 0, none⟩) 0 0) 0 0 Bk nx pv :=
  ⟨⟨⟨fun i h => by omega, fun i h => by omega, fun i h => by omega, fun i h => by omega⟩, fun i j h => by omega, fun i h => by omega⟩, Own.empty _ _ _ (Nat.le_refl _), fun k h => by omega, fun k h => by omega, (Below.refl _ _).alloc (Nat.le_refl _) _⟩

/-- A new ring behind the others. -/
theorem Mk.new {w0 w w' : World} {v : Value} {M : Nat} {Bk nx pv : Nat → Nat} (h : Mk w0 w v M M Bk nx pv) {m : Nat} (hm : 1 ≤ m) {e : Ending} (hn : NewPost w m e w') :
    Mk w0 w' v (M + m) M (jB M Bk fun k => w.heap.size + k) (jnx M m nx) (jpv M m pv) := by
  obtain ⟨_, h1, h2, h3, h4⟩ := hn
  have r1 : Rg w' Bk M nx pv (vals M) := h.rg.keep fun i hi => h4.block _ (h.rg.lt hi)
  have r2 := r1.join hm h2 (fun i j hi hj => by have := h.rg.lt hi; omega)
  have o1 := h.own.below h4 (Nat.le_refl _)
  refine ⟨?_, ?_, ?_, ?_, h.below.trans (h4.mono h.below.size)⟩
  · refine ⟨r2.inv, r2.inj, fun i hi => ?_⟩
    have e : (if i < M then vals M i else Value.nilIface) = vals M i := by unfold vals; split <;> rfl
    have := r2.cell i hi
    simp only [Live, Bare] at this ⊢
    rw [e] at this
    exact this
  · have e : ((List.range M).map fun k => ptr (jB M Bk (fun k => w.heap.size + k) k)) = (List.range M).map fun k => ptr (Bk k) := by
      apply List.map_congr_left
      intro k hk
      rw [List.mem_range] at hk
      simp [jB, hk]
    rw [e]; exact o1
  · intro k hk
    unfold jB
    split
    · exact h.hi k (by omega)
    · have := h.below.size; show w0.heap.size ≤ w.heap.size + _; omega
  · intro k hk
    unfold jB
    split
    · exact h.ne k (by omega)
    · intro q
      have := (h.own.lt q).2
      simp only at this
      omega
theorem Mk.keep_rg {w0 w w' : World} {v : Value} {N cnt : Nat} {Bk nx pv : Nat → Nat} (h : Mk w0 w v N cnt Bk nx pv) (hr : Rg w' Bk N nx pv (vals cnt)) (hs : RSame Bk N w w') : Mk w0 w' v N cnt Bk nx pv :=
  ⟨hr, h.own.keep fun k hk => hs.block k (fun i hi e => h.ne i hi (by rw [hk, e])), h.hi, h.ne, h.below.trans (hs.below h.hi)⟩

/-- The next element is numbered. -/
theorem Mk.value {w0 w : World} {v : Value} {N cnt : Nat} {Bk nx pv : Nat → Nat} (h : Mk w0 w v N cnt Bk nx pv) (hc : cnt < N) :
    Rg (w.setCell ⟨Bk cnt, 2, none⟩ (.iface 3 (.int .i64 (cnt : Int)))) Bk N nx pv (vals (cnt + 1)) ∧ Own 54 w0.heap.size (w.setCell ⟨Bk cnt, 2, none⟩ (.iface 3 (.int .i64 (cnt : Int)))) v ((List.range cnt).map fun k => ptr (Bk k)) ∧
      Below w0.heap.size w0 (w.setCell ⟨Bk cnt, 2, none⟩ (.iface 3 (.int .i64 (cnt : Int)))) := by
  refine ⟨⟨h.rg.inv, h.rg.inj, fun i hi => ?_⟩, h.own.keep fun k hk => blk_other (fun e => h.ne cnt hc (by rw [hk, e])), below_set h.below (h.hi cnt hc)⟩
  by_cases e : i = cnt
  · subst e
    refine (h.rg.cell i hi).imp (fun q => ?_) (fun ⟨a, b, q⟩ => ⟨a, b, ?_⟩)
    · have := blk_set (o := 2) (v := .iface 3 (.int .i64 (i : Int))) q
      unfold Live
      rw [this]
      simp [vals]
    · have := blk_set (o := 2) (v := .iface 3 (.int .i64 (i : Int))) q
      rw [this]
      simp [vals]
  · have hne : Bk i ≠ Bk cnt := fun q => e (h.rg.inj i cnt hi hc q)
    have ev : vals (cnt + 1) i = vals cnt i := by unfold vals; split <;> split <;> first | rfl | omega
    refine (h.rg.cell i hi).imp (fun q => ?_) (fun ⟨a, b, q⟩ => ⟨a, b, ?_⟩)
    · unfold Live; rw [blk_other hne, ev]; exact q
    · rw [blk_other hne, ev]; exact q
/-- .. and is in the slice. -/
theorem Mk.push {w0 w w' : World} {v v' : Value} {N cnt : Nat} {Bk nx pv : Nat → Nat} (hR : Rg w Bk N nx pv (vals (cnt + 1))) (hB : Below w0.heap.size w0 w) (hi : ∀ k, k < N → w0.heap.size ≤ Bk k) (hne : ∀ k, k < N → v.ownBlock ≠ some (Bk k))
    (ho0 : Own 54 w0.heap.size w v ((List.range cnt).map fun k => ptr (Bk k))) (ho : Own 54 w0.heap.size w' v' ((List.range cnt).map (fun k => ptr (Bk k)) ++ [ptr (Bk cnt)])) (hp : Pushed w w' v v') :
    Mk w0 w' v' N (cnt + 1) Bk nx pv := by
  refine ⟨hR.keep fun i hi => hp.other (hR.lt hi) (hne i hi), by simpa [List.range_succ] using ho, hi, fun k hk => hp.ne (hR.lt hk) (hne k hk), ?_⟩
  exact hB.trans (hp.below hB.size (fun k hk => (ho0.lt hk).1))

end Go.Proofs.Ytmkkkhlalacaiaa

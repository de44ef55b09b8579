/- impl.index, and the entry points that return a number: impl.Next, impl.Prev, impl.Move, impl.Len. Written by genidx.py. -/
import Derived.Test.YtmkkkhlalacaiaaMade
import Derived.Test.YtmkkkhlalacaiaaMove
namespace Go.Proofs.Ytmkkkhlalacaiaa
open Go.RowKit
open Go.Proofs.Ytmkkkhlalacaiaa.Rm
set_option linter.unusedVariables false

theorem run_assert_int (i : Int) (T : TypeId) (w : World) : (Instr.typeAssert (.iface 3 (.int .i64 i)) T 3 true).run Try.prog w = .ok (.tuple #[.int .i64 i, .bool true]) w := by
  simp [Instr.typeAssert, run_underlying Try.underlying3]

theorem index_nil (w : World) :
    Calls Try.prog 23 #[.pointer none] w fun e w' => e = .returned (.int .i64 (-1)) ∧ w = w' := by
  go_enter Try.func23, Try.ntmps23
  go_wp2
  go_ret
  exact ⟨rfl, rfl⟩
theorem index_calls (w : World) (b i : Nat) (hc : w.cell? ⟨b, 2, none⟩ = some (.iface 3 (.int .i64 (i : Int)))) :
    Calls Try.prog 23 #[ptr b] w fun e w' => e = .returned (.int .i64 (i : Int)) ∧ w = w' := by
  have hnot : ∀ (x : Bool) (w : World), (Op.unary .not (.bool x)).run Try.prog w = .ok (.bool (!x)) w := fun _ _ => rfl
  have hta := run_assert_int (i : Int)
  go_enter Try.func23, Try.ntmps23
  go_wp2
  go_ret
  exact ⟨rfl, rfl⟩
theorem Rg.index {w : World} {Bk : Nat → Nat} {N : Nat} {nx pv : Nat → Nat} (h : Rg w Bk N nx pv (vals N)) {i : Nat} (hi : i < N) :
    Calls Try.prog 23 #[ptr (Bk i)] w fun e w' => e = .returned (.int .i64 (i : Int)) ∧ w = w' :=
  index_calls w _ i (by rw [h.value hi]; simp [vals, hi])

/-- The made slice: its form, and its elements. -/
theorem Mk.at {w0 w : World} {v : Value} {N : Nat} {Bk nx pv : Nat → Nat} (h : Mk w0 w v N N Bk nx pv) :
    ∃ a c, v = .slice a N c ∧ N ≤ c ∧ c ≤ 9223372036854775807 ∧ ∀ i, i < N → ∃ b off, a = some ⟨b, off, none⟩ ∧ w.cell? ⟨b, off + i, none⟩ = some (ptr (Bk i)) := by
  rcases h.own.form with ⟨rfl, h0⟩ | ⟨g, cap, cur, rfl, _, hh, h3, h4, h5, h6⟩
  · obtain rfl : N = 0 := by simpa using h0
    exact ⟨none, 0, rfl, Nat.le_refl _, by omega, fun i hi => by omega⟩
  · simp only [List.length_map, List.length_range] at h3 h6 ⊢
    refine ⟨_, _, rfl, h3, h4, fun i hi => ⟨g, 0, rfl, ?_⟩⟩
    have e : cur.toList[i]? = (cur.toList.take N)[i]? := by rw [List.getElem?_take, if_pos hi]
    refine blk_cell (l := cur.toList) (by simpa using hh) ?_
    rw [Nat.zero_add, e, h6]
    simp [hi]

/-- The element that lies so many elements behind one, in a list of rings. -/
def mv (t : List (List Nat)) (i : Nat) (z : Int) : Nat := (from' t i).getD (z % ((from' t i).length : Int)).toNat 0
theorem neg_mod (k L : Nat) (hL : 0 < L) : (-(k : Int)) % (L : Int) = (((L - k % L) % L : Nat) : Int) := by
  have h1 := Nat.div_add_mod k L
  have h2 := Nat.mod_lt k hL
  have e : (-(k : Int)) = ((L - k % L : Nat) : Int) + (L : Int) * (-((k / L : Nat) : Int) - 1) := by
    rw [Int.mul_sub, Int.mul_neg, Int.mul_one, Int.ofNat_sub (by omega)]
    have : (k : Int) = (L : Int) * ((k / L : Nat) : Int) + ((k % L : Nat) : Int) := by exact_mod_cast h1.symm
    omega
  rw [e, Int.add_mul_emod_self_left]
  exact_mod_cast rfl
theorem Rm.Rep.moved_eq {N : Nat} {nx pv : Nat → Nat} {t : List (List Nat)} (hR : Rep N nx t) (hI : Inv N nx pv) {i : Nat} (hi : i < N) (z : Int) : moved nx pv i z = mv t i z := by
  have r := hR.from_ring hi
  unfold Go.Proofs.Ytmkkkhlalacaiaa.moved mv
  split
  · rename_i h
    obtain ⟨k, rfl⟩ := Int.eq_ofNat_of_zero_le h
    have := r.get k
    rw [List.getD_eq_getElem?_getD, show ((k : Int) % ((from' t i).length : Int)).toNat = k % (from' t i).length from by omega, this]
    simp
  · rename_i h
    obtain ⟨k, rfl⟩ : ∃ k : Nat, z = -(k : Int) := ⟨(-z).toNat, by omega⟩
    rw [neg_mod k _ r.pos, Int.toNat_natCast, Int.neg_neg, Int.toNat_natCast, r.back hI hi, List.getD_eq_getElem?_getD]
    have := r.get ((from' t i).length - k % (from' t i).length)
    rw [this, ← r.it_mod]
    rfl
theorem Rm.Rep.next {N : Nat} {nx pv : Nat → Nat} {t : List (List Nat)} (hR : Rep N nx t) (hI : Inv N nx pv) {i : Nat} (hi : i < N) : nx i = mv t i 1 := (hR.moved_eq hI hi 1).symm ▸ rfl
theorem Rm.Rep.prev {N : Nat} {nx pv : Nat → Nat} {t : List (List Nat)} (hR : Rep N nx t) (hI : Inv N nx pv) {i : Nat} (hi : i < N) : pv i = mv t i (-1) := (hR.moved_eq hI hi (-1)).symm ▸ rfl
theorem Rm.Rep.mv_lt {N : Nat} {nx pv : Nat → Nat} {t : List (List Nat)} (hR : Rep N nx t) (hI : Inv N nx pv) {i : Nat} (hi : i < N) (z : Int) : mv t i z < N := by
  rw [← hR.moved_eq hI hi z]; exact moved_lt hI hi z
theorem nodup_len (N : Nat) : ∀ l : List Nat, l.Nodup → (∀ x, x ∈ l → x < N) → l.length ≤ N := by
  induction N with
  | zero =>
    intro l _ h
    cases l with
    | nil => simp
    | cons a l => have := h a (by simp); omega
  | succ N ih =>
    intro l hd h
    by_cases c : N ∈ l
    · have h1 := ih (l.erase N) (hd.erase N) (fun x hx => by
        have := (List.Nodup.mem_erase_iff hd).1 hx
        have := h x this.2
        omega)
      have := List.length_erase_of_mem c
      omega
    · have := ih l hd (fun x hx => by
        have := h x hx
        have : x ≠ N := fun e => c (e ▸ hx)
        omega)
      omega
theorem Rm.Rep.len_le {N : Nat} {nx : Nat → Nat} {t : List (List Nat)} (hR : Rep N nx t) {i : Nat} (hi : i < N) : (from' t i).length ≤ N := by
  have r := hR.from_ring hi
  exact nodup_len N _ r.nodup (fun x hx => hR.from_lt hi hx)

/-- An entry point that returns a number. -/
def NumPost (w : World) (m : Int) (e : Ending) (w' : World) : Prop := e = .returned (.int .i64 m) ∧ Below w.heap.size w w'





end Go.Proofs.Ytmkkkhlalacaiaa

/- The closure of impl.CompactFunc, and the plain mathematics of compacting. -/
import Derived.Test.YtgmnonijhgipbaaClass
import Derived.Test.YtgmnonijhgipbaaDel
namespace Go.Proofs.Ytgmnonijhgipbaa
open Go.RowKit
set_option linter.unusedVariables false

theorem Rd.drewN {k : IntKind} {w : World} {a : Option Addr} {n c : Nat} {xs : List Int} (h : Rd k w a n c xs) (m : Nat) : Rd k (w.drewN m) a n c xs := h

/-- Two numbers of one class. -/
def eqC (tb : List Int) (x y : Int) : Bool := classI tb x == classI tb y

set_option maxHeartbeats 400000 in
theorem same_class_calls (w : World) (B : Nat) (ta : Option Addr) (tn tc : Nat) (tb : List Int) (x y : Int) (hB : w.cell? ⟨B, 0, none⟩ = some (.slice ta tn tc)) (ht : Rd .i64 w ta tn tc tb)
    (hx : -9223372036854775808 ≤ x ∧ x ≤ 9223372036854775807) (hy : -9223372036854775808 ≤ y ∧ y ≤ 9223372036854775807) :
    Calls Try.prog 30 #[.int .i64 x, .int .i64 y, .pointer (some ⟨B, 0, none⟩)] w fun e w' => e = .returned (.bool (eqC tb x y)) ∧ ∃ q, w' = w.drewN q := by
  unfold eqC
  have hcx := fun m => class_calls ta tn tc tb x (w.drewN m) (ht.drewN m) hx
  have hcy := fun m => class_calls ta tn tc tb y (w.drewN m) (ht.drewN m) hy
  generalize hX : classI tb x = X at hcx
  generalize hY : classI tb y = Y at hcy
  have hcx' := Lib.hid hcx
  have hcy' := Lib.hid hcy
  clear hcx hcy hX hY
  go_enter Try.func30, Try.ntmps30
  go_wp2
  go_quiet ((first | (go_at_call 31; with_reducible exact Calls.quiet_of_same (hcx'.out _)) | (go_at_call 31; with_reducible exact Calls.quiet_of_same (hcy'.out _))))
  go_wp2
  go_ret
  exact ⟨rfl, _, rfl⟩

/-- Of the first j numbers those that are not equal to the one before. -/
def cmpTo (eq : Int → Int → Bool) (xs : List Int) : Nat → List Int
  | 0 => []
  | j + 1 => if j = 0 ∨ eq (xs.getD j 0) (xs.getD (j - 1) 0) = false then cmpTo eq xs j ++ [xs.getD j 0] else cmpTo eq xs j
theorem cmpTo_le (eq : Int → Int → Bool) (xs : List Int) (j : Nat) : (cmpTo eq xs j).length ≤ j := by
  induction j with
  | zero => simp [cmpTo]
  | succ j ih => simp only [cmpTo]; split <;> (try simp only [List.length_append, List.length_cons, List.length_nil]) <;> omega
theorem cmpTo_keep {eq : Int → Int → Bool} {xs : List Int} {j : Nat} (h : j = 0 ∨ eq (xs.getD j 0) (xs.getD (j - 1) 0) = false) : cmpTo eq xs (j + 1) = cmpTo eq xs j ++ [xs.getD j 0] := by
  simp only [cmpTo]; rw [if_pos h]
theorem cmpTo_skip {eq : Int → Int → Bool} {xs : List Int} {j : Nat} (h : ¬ (j = 0 ∨ eq (xs.getD j 0) (xs.getD (j - 1) 0) = false)) : cmpTo eq xs (j + 1) = cmpTo eq xs j := by
  simp only [cmpTo]; rw [if_neg h]
/-- While nothing was equal, all is kept. -/
theorem cmpTo_all {eq : Int → Int → Bool} {xs : List Int} {j : Nat} (hj : j < xs.length) (h : cmpTo eq xs j = xs.take j) (h1 : j = 0 ∨ eq (xs.getD j 0) (xs.getD (j - 1) 0) = false) : cmpTo eq xs (j + 1) = xs.take (j + 1) := by
  rw [cmpTo_keep h1, h, take_getD hj]

/-- What the block holds while CompactFunc goes on. -/
def CmpCells (eq : Int → Int → Bool) (xs : List Int) (j : Nat) (L : List Value) : Prop :=
  L.length = xs.length ∧ L.take (cmpTo eq xs j).length = (cmpTo eq xs j).map (Value.int .i64) ∧ L.drop (j - 1) = (xs.drop (j - 1)).map (Value.int .i64) ∧ (cmpTo eq xs j).length < j

theorem CmpCells.get {eq : Int → Int → Bool} {xs : List Int} {j i : Nat} {L : List Value} (h : CmpCells eq xs j L) (hi : i < xs.length) (hj : j - 1 ≤ i) : L[i]? = some (.int .i64 (xs.getD i 0)) := by
  have := congrArg (fun l => l[i - (j - 1)]?) h.2.2.1
  simp only [List.getElem?_drop, List.getElem?_map] at this
  rw [show j - 1 + (i - (j - 1)) = i by omega] at this
  rw [this]
  simp [List.getD_eq_getElem?_getD, hi]
theorem CmpCells.skip {eq : Int → Int → Bool} {xs : List Int} {j : Nat} {L : List Value} (h : CmpCells eq xs j L) (hj : 0 < j) (h1 : ¬ (j = 0 ∨ eq (xs.getD j 0) (xs.getD (j - 1) 0) = false)) : CmpCells eq xs (j + 1) L := by
  obtain ⟨h2, h3, h4, h5⟩ := h
  refine ⟨h2, by rw [cmpTo_skip h1]; exact h3, ?_, by rw [cmpTo_skip h1]; omega⟩
  have e : j + 1 - 1 = (j - 1) + 1 := by omega
  rw [e, ← List.drop_drop, h4, ← List.map_drop, List.drop_drop]
theorem CmpCells.keep {eq : Int → Int → Bool} {xs : List Int} {j : Nat} {L : List Value} (h : CmpCells eq xs j L) (hj : 0 < j) (hlt : j < xs.length) (h1 : j = 0 ∨ eq (xs.getD j 0) (xs.getD (j - 1) 0) = false) :
    CmpCells eq xs (j + 1) (L.set (cmpTo eq xs j).length (.int .i64 (xs.getD j 0))) := by
  obtain ⟨h2, h3, h4, h5⟩ := h
  refine ⟨by simpa using h2, ?_, ?_, by rw [cmpTo_keep h1]; simp; omega⟩
  · rw [cmpTo_keep h1, List.length_append, List.map_append, ← h3]
    simp only [List.length_cons, List.length_nil, List.map_cons, List.map_nil]
    rw [List.take_succ_eq_append_getElem (by simp; omega)]
    simp [List.take_set]
    exact List.set_eq_of_length_le (by simp; omega)
  · have e : j + 1 - 1 = (j - 1) + 1 := by omega
    rw [List.drop_set_of_lt (by omega), e, ← List.drop_drop, h4, ← List.map_drop, List.drop_drop]
theorem CmpCells.start {eq : Int → Int → Bool} {xs : List Int} {k : Nat} (hk : k < xs.length) (h0 : 0 < k) (h : cmpTo eq xs k = xs.take k) (h1 : ¬ (k = 0 ∨ eq (xs.getD k 0) (xs.getD (k - 1) 0) = false)) : CmpCells eq xs (k + 1) (xs.map (Value.int .i64)) := by
  refine ⟨by simp, ?_, by rw [List.map_drop], ?_⟩
  · rw [cmpTo_skip h1, h, ← List.map_take]
    simp
  · rw [cmpTo_skip h1, h]; simp; omega
theorem CmpCells.done {eq : Int → Int → Bool} {xs : List Int} {L : List Value} (h : CmpCells eq xs xs.length L) :
    L.take (cmpTo eq xs xs.length).length ++ List.replicate (xs.length - (cmpTo eq xs xs.length).length) (Value.int .i64 0) ++ L.drop ((cmpTo eq xs xs.length).length + (xs.length - (cmpTo eq xs xs.length).length)) =
      (cmpTo eq xs xs.length ++ List.replicate (xs.length - (cmpTo eq xs xs.length).length) 0).map (Value.int .i64) := by
  obtain ⟨h1, h2, _⟩ := h
  have := cmpTo_le eq xs xs.length
  rw [h2, List.drop_eq_nil_of_le (by omega)]
  simp

end Go.Proofs.Ytgmnonijhgipbaa

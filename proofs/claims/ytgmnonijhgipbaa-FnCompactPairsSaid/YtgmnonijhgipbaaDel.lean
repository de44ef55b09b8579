/- slices.DeleteFunc with the closure of impl.DeleteFunc. -/
import Derived.Test.YtgmnonijhgipbaaProg
import Derived.Test.YtgmnonijhgipbaaOwn
import Derived.Test.YtgmnonijhgipbaaSpare
import Derived.Test.YtgmnonijhgipbaaFind
import Derived.Test.YtgmnonijhgipbaaAsk
import Derived.Test.YtgmnonijhgipbaaPick
namespace Go.Proofs.Ytgmnonijhgipbaa
open Go.RowKit
set_option linter.unusedVariables false

/-- clear(s), where s lies in a block that is known whole. -/
theorem wpl_clear {P : Program} {w : World} {ops : Array Oper} {rest : List Oper} {o : Oper} {a : Act} {Q : Exit → Act → World → Prop} (hgd : o.guard = none) (s : Operand) (T E : TypeId)
    (ho : o.op = .call { callee := .builtin .clear, args := #[s], argTypes := #[T] }) (hu : P.underlying T = some (.slice E)) {i : TypeInfo} (hi : P.info? E = some i) (hz : i.zero = some (.int .i64 0))
    (g off n c : Nat) (ad : Option Addr) (hs : a.eval s = .slice ad n c) (hpos : 0 < n → ad = some ⟨g, off, none⟩) (L : List Value) (t : TypeId) (hg : w.heap[g]? = some (.cells L.toArray t (0, 0))) (hfit : off + n ≤ L.length)
    (h : ∀ w', Hid (w'.heap[g]? = some (.cells (L.take off ++ List.replicate n (Value.int .i64 0) ++ L.drop (off + n)).toArray t (0, 0))) → Sole g w w' → wpList P ops Q rest (a.put o.dst (.tuple #[])) w') : wpList P ops Q (o :: rest) a w := by
  refine wpList_plain hgd fun K hK => ?_
  by_cases hn : n = 0
  · subst hn
    have hr : (Builtin.clear_ #[T] o.type #[.slice ad 0 c]).run P w = .ok (.tuple #[]) w := by
      cases ad <;> simp [Builtin.clear_, run_underlying hu]
    unfold Oper.wp execOp
    simp only [ho, resolve, invoke, builtin, Sem.run_bind, Sem.run_pure, Result.andThen_ok, List.map_toArray, List.map_cons, List.map_nil, hs, hr]
    exact hK _ _ (h w (by show _ = _; simpa using hg) ⟨rfl, rfl, rfl, rfl, fun _ _ => rfl⟩)
  · obtain rfl := hpos (by omega)
    have e : (Builtin.zeroCells #[Value.int .i64 0] n).toList = List.replicate n (Value.int .i64 0) := by
      apply List.ext_getElem
      · simp [Builtin.zeroCells]
      · intro k h1 h2
        simp [Builtin.zeroCells, Nat.mod_one]
    have hst := run_storeCells_at P g off t (List.replicate n (Value.int .i64 0)) 0 L.toArray w hg (by simp; omega) (by intro v hv; obtain ⟨_, rfl⟩ := List.mem_replicate.1 hv; rfl)
    have hr : (Builtin.clear_ #[T] o.type #[.slice (some ⟨g, off, none⟩) n c]).run P w = .ok (.tuple #[]) (w.setRow g (L.take off ++ List.replicate n (Value.int .i64 0) ++ L.drop (off + n)).toArray) := by
      obtain ⟨m, rfl⟩ : ∃ m, n = m + 1 := ⟨n - 1, by omega⟩
      simp only [Nat.add_zero, List.length_replicate] at hst
      simp [Builtin.clear_, run_underlying hu, zeroValue, typeInfo, hi, hz, Value.cells, e, hst]
    unfold Oper.wp execOp
    simp only [ho, resolve, invoke, builtin, Sem.run_bind, Sem.run_pure, Result.andThen_ok, List.map_toArray, List.map_cons, List.map_nil, hs, hr]
    refine hK _ _ (h _ (setRow_heap w g _ _ t _ hg) ⟨rfl, rfl, rfl, by simp [World.setRow], fun k hk => setRow_other w g k _ (fun e => hk e)⟩)

theorem deleter_calls (w : World) (B : Nat) (ta : Option Addr) (tn tc : Nat) (tb : List Int) (x : Int) (hB : w.cell? ⟨B, 0, none⟩ = some (.slice ta tn tc)) (ht : Rd .i64 w ta tn tc tb) :
    Calls Try.prog 34 #[.int .i64 x, .pointer (some ⟨B, 0, none⟩)] w fun e w' => e = .returned (.bool (decide (x ∈ tb))) ∧ w = w' := by
  go_enter Try.func34, Try.ntmps34
  go_wp2_with fail
  refine (in_calls _ _ _ _ _ _ ht).mono ?_
  rintro e w2 ⟨rfl, rfl⟩
  go_wp2
  go_ret
  exact ⟨rfl, rfl⟩

/-- What IndexFunc comes to with that closure. -/
def FoundDel (w : World) (n : Nat) (tb xs : List Int) (e : Ending) (w' : World) : Prop :=
  w = w' ∧ ((e = .returned (.int .i64 (-1)) ∧ ∀ x, x ∈ xs → x ∉ tb) ∨ ∃ k : Nat, e = .returned (.int .i64 (k : Int)) ∧ k < n ∧ (∀ x, x ∈ xs.take k → x ∉ tb) ∧ xs.getD k 0 ∈ tb)

set_option maxHeartbeats 400000 in
theorem indexDel_calls (w : World) (a : Option Addr) (n c : Nat) (xs : List Int) (B : Nat) (ta : Option Addr) (tn tc : Nat) (tb : List Int) (hx : Rd .i64 w a n c xs) (hB : w.cell? ⟨B, 0, none⟩ = some (.slice ta tn tc)) (ht : Rd .i64 w ta tn tc tb) :
    Calls Try.prog 39 #[.slice a n c, .func (.func 34) #[] #[.pointer (some ⟨B, 0, none⟩)]] w (FoundDel w n tb xs) := by
  have l := hx.le
  have hl := Lib.hid hx.len
  have hB' := Lib.hid hB
  clear hB
  go_enter Try.func39, Try.ntmps39
  go_wp2
  go_loop [8] (fun i => ∃ k : Nat, k ≤ n ∧ i = .int .i64 k ∧ Hid (∀ x, x ∈ xs.take k → x ∉ tb)) (fun i => n - (intOf i).toNat)
  case atStart => exact ⟨0, Nat.zero_le _, rfl, by intro x hx; simp at hx⟩
  case round =>
    obtain ⟨k, hk, rfl, hno⟩ := hrel
    by_cases hlt : k < n
    · obtain ⟨b, o, rfl, _, f1⟩ := hx.at (by omega)
      have c1 := f1 k hlt
      clear f1
      have hkl := Lib.hid (show k < xs.length by rw [hl.out]; exact hlt)
      generalize hy : xs.getD k 0 = y at c1
      have hy' := Lib.hid hy
      clear hy
      go_wp2_with fail
      refine (deleter_calls w B ta tn tc tb y hB'.out ht).mono ?_
      rintro e w1 ⟨rfl, rfl⟩
      by_cases hm : y ∈ tb
      · simp only [hm, decide_true]
        have hm' := Lib.hid hm
        clear hm
        go_wp2
        go_ret
        exact ⟨rfl, .inr ⟨k, rfl, hlt, hno.out, by rw [hy'.out]; exact hm'.out⟩⟩
      · simp only [hm, decide_false]
        have hno' := Lib.hid (none_succ hkl.out hno.out (by rw [hy'.out]; exact hm))
        clear hm
        go_wp2
        go_round
        case rel => exact ⟨k + 1, by omega, by go_num, hno'.out⟩
        case measure => simp [intOf]; omega
    · have he : xs.take k = xs := List.take_of_length_le (by rw [hl.out]; omega)
      have hno' := Lib.hid (show ∀ x, x ∈ xs → x ∉ tb by have := hno.out; rwa [he] at this)
      clear he
      go_wp2
      go_ret
      exact ⟨rfl, .inl ⟨rfl, hno'.out⟩⟩

/-- The numbers that are not in the table. -/
def without (tb xs : List Int) : List Int := xs.filter fun x => decide (x ∉ tb)
theorem without_snoc (tb xs : List Int) (k : Nat) (h : k < xs.length) : without tb (xs.take (k + 1)) = without tb (xs.take k) ++ (if xs.getD k 0 ∈ tb then [] else [xs.getD k 0]) := by
  rw [← take_getD h]
  unfold without
  rw [List.filter_append]
  congr 1
  generalize xs.getD k 0 = y
  by_cases hm : y ∈ tb <;> simp [hm]
theorem without_all {tb xs : List Int} (h : ∀ x, x ∈ xs → x ∉ tb) : without tb xs = xs := by
  unfold without
  rw [List.filter_eq_self]
  intro x hx
  simpa using h x hx
theorem without_le (tb xs : List Int) : (without tb xs).length ≤ xs.length := List.length_filter_le _ _

/-- What the block holds while DeleteFunc goes on: the kept ones of the first j, something, and all from j on. -/
def DelCells (tb xs : List Int) (j : Nat) (L : List Value) : Prop :=
  L.length = xs.length ∧ L.take (without tb (xs.take j)).length = (without tb (xs.take j)).map (Value.int .i64) ∧ L.drop j = (xs.drop j).map (Value.int .i64)

theorem DelCells.get {tb xs : List Int} {j : Nat} {L : List Value} (h : DelCells tb xs j L) (hj : j < xs.length) : L[j]? = some (.int .i64 (xs.getD j 0)) := by
  have := congrArg (fun l => l[0]?) h.2.2
  simp only [List.getElem?_drop, List.getElem?_map, Nat.add_zero] at this
  rw [this]
  simp [List.getD_eq_getElem?_getD, hj]
theorem DelCells.skip {tb xs : List Int} {j : Nat} {L : List Value} (h : DelCells tb xs j L) (hj : j < xs.length) (hm : xs.getD j 0 ∈ tb) : DelCells tb xs (j + 1) L := by
  obtain ⟨h1, h2, h3⟩ := h
  refine ⟨h1, ?_, ?_⟩
  · rw [without_snoc tb xs j hj, if_pos hm, List.append_nil]; exact h2
  · rw [← List.drop_drop, h3, ← List.map_drop, List.drop_drop]
theorem DelCells.keep {tb xs : List Int} {j : Nat} {L : List Value} (h : DelCells tb xs j L) (hj : j < xs.length) (hm : xs.getD j 0 ∉ tb) (hlt : (without tb (xs.take j)).length < xs.length) :
    DelCells tb xs (j + 1) (L.set (without tb (xs.take j)).length (.int .i64 (xs.getD j 0))) := by
  obtain ⟨h1, h2, h3⟩ := h
  have hle : (without tb (xs.take j)).length ≤ j := Nat.le_trans (without_le _ _) (by simp; omega)
  refine ⟨by simpa using h1, ?_, ?_⟩
  · rw [without_snoc tb xs j hj, if_neg hm, List.length_append, List.map_append, ← h2]
    simp only [List.length_cons, List.length_nil, List.map_cons, List.map_nil]
    rw [List.take_succ_eq_append_getElem (by simp; omega)]
    simp [List.take_set]
    exact List.set_eq_of_length_le (by simp; omega)
  · rw [List.drop_set_of_lt (by omega), ← List.drop_drop, h3, ← List.map_drop, List.drop_drop]

theorem DelCells.start {tb xs : List Int} {k : Nat} (hk : k < xs.length) (h1 : ∀ x, x ∈ xs.take k → x ∉ tb) (h2 : xs.getD k 0 ∈ tb) : DelCells tb xs (k + 1) (xs.map (Value.int .i64)) := by
  refine ⟨by simp, ?_, by rw [List.map_drop]⟩
  rw [without_snoc tb xs k hk, if_pos h2, List.append_nil, without_all h1, ← List.map_take]
  simp
theorem DelCells.done {tb xs : List Int} {L : List Value} (h : DelCells tb xs xs.length L) :
    L.take (without tb xs).length ++ List.replicate (xs.length - (without tb xs).length) (Value.int .i64 0) ++ L.drop ((without tb xs).length + (xs.length - (without tb xs).length)) =
      (without tb xs ++ List.replicate (xs.length - (without tb xs).length) 0).map (Value.int .i64) := by
  obtain ⟨h1, h2, _⟩ := h
  rw [List.take_length] at h2
  have := without_le tb xs
  rw [h2, List.drop_eq_nil_of_le (by omega)]
  simp

/-- What slices.DeleteFunc comes to, of a slice in a block of its own. -/
def DelPost (w : World) (g n c : Nat) (tb xs : List Int) (e : Ending) (w' : World) : Prop :=
  e = .returned (.slice (some ⟨g, 0, none⟩) (without tb xs).length c) ∧ w'.heap[g]? = some (.cells ((without tb xs ++ List.replicate (n - (without tb xs).length) 0).map (Value.int .i64)).toArray 3 (0, 0)) ∧ Sole g w w'

theorem Sole.refl (R : Nat) (w : World) : Sole R w w := ⟨rfl, rfl, rfl, rfl, fun _ _ => rfl⟩
theorem Sole.trans {R : Nat} {a b c : World} (h : Sole R a b) (k : Sole R b c) : Sole R a c :=
  ⟨k.os.trans h.os, k.tape.trans h.tape, k.output.trans h.output, k.size.trans h.size, fun i hi => (k.block i hi).trans (h.block i hi)⟩
theorem Rd.sole {R : Nat} {w w' : World} {k : IntKind} {a : Option Addr} {n c : Nat} {xs : List Int} (h : Rd k w a n c xs) (hs : Sole R w w') (hR : ∀ ad, a = some ad → ad.block ≠ R) : Rd k w' a n c xs := by
  obtain ⟨h1, h2, h3, h4, h5⟩ := h
  refine ⟨h1, h2, h3, h4, fun i hi => ?_⟩
  obtain ⟨b, off, e, hlt, hc⟩ := h5 i hi
  exact ⟨b, off, e, by rw [hs.size]; exact hlt, by rw [World.cell?_of_block (w := w) (hs.block b (hR _ e))]; exact hc⟩

set_option maxHeartbeats 1000000 in
theorem ldelete_calls (w : World) (g n c : Nat) (xs : List Int) (B : Nat) (ta : Option Addr) (tn tc : Nat) (tb : List Int) (hl : xs.length = n) (hc : n ≤ c) (hm : c ≤ 9223372036854775807)
    (hg : w.heap[g]? = some (.cells (xs.map (Value.int .i64)).toArray 3 (0, 0))) (hB : w.cell? ⟨B, 0, none⟩ = some (.slice ta tn tc)) (hBg : B ≠ g) (ht : Rd .i64 w ta tn tc tb) (htg : ∀ ad, ta = some ad → ad.block ≠ g) :
    Calls Try.prog 33 #[.slice (some ⟨g, 0, none⟩) n c, .func (.func 34) #[] #[.pointer (some ⟨B, 0, none⟩)]] w (DelPost w g n c tb xs) := by
  have hx : Rd .i64 w (some ⟨g, 0, none⟩) n c xs := Rd.blk hg hl hc hm fun i hi => by rw [Nat.zero_add]; exact getD_map_int .i64 xs i (by omega)
  have hg' := Lib.hid hg
  have hB' := Lib.hid hB
  have htg' := Lib.hid htg
  have hl' := Lib.hid hl
  clear hg hB htg hl
  go_enter Try.func33, Try.ntmps33
  go_wp2_with fail
  refine (indexDel_calls w _ n c xs B ta tn tc tb hx hB'.out ht).mono ?_
  rintro e w1 ⟨rfl, ⟨rfl, hno⟩ | ⟨k0, rfl, hk0, hno, hyes⟩⟩
  · have hno' := Lib.hid hno
    clear hno
    go_wp2
    go_ret
    refine ⟨by rw [without_all hno'.out, hl'.out]; rfl, ?_, Sole.refl _ _⟩
    rw [without_all hno'.out, hl'.out]
    simpa using hg'.out
  · have hst := Lib.hid (DelCells.start (by rw [hl'.out]; exact hk0) hno hyes)
    have hlen : Hid ((without tb (xs.take (k0 + 1))).length = k0) := by
      show _ = _
      rw [without_snoc tb xs k0 (by rw [hl'.out]; exact hk0), if_pos hyes, List.append_nil, without_all hno]
      simp [hl'.out]; omega
    have t : ((k0 : Int) == -1) = false := by simp
    clear hno hyes
    go_wp2
    go_loopw [5, 6] (fun vi vj wr => ∃ i j : Nat, i < j ∧ j ≤ n ∧ vi = .int .i64 (i : Int) ∧ vj = .int .i64 (j : Int) ∧ Hid (i = (without tb (xs.take j)).length) ∧ Sole g w wr ∧ ∃ L : List Value, DelCells tb xs j L ∧ Hid (wr.heap[g]? = some (.cells L.toArray 3 (0, 0)))) (fun _ vj _ => n - (intOf vj).toNat)
    case atStart => exact ⟨k0, k0 + 1, by omega, by omega, rfl, by go_num, hlen.out.symm, Sole.refl _ _, _, hst.out, hg'⟩
    case round =>
      clear hst hlen t hx
      obtain ⟨i, j, hij, hj, rfl, rfl, hi, hs, L, hL, hgr⟩ := hrel
      have hBr : wr.cell? ⟨B, 0, none⟩ = some (.slice ta tn tc) := by rw [World.cell?_of_block (w := w) (hs.block B hBg)]; exact hB'.out
      have htr := Lib.hid (ht.sole hs htg'.out)
      by_cases hlt : j < n
      · have hjl := Lib.hid (show j < xs.length by rw [hl'.out]; exact hlt)
        have hcell : wr.cell? ⟨g, j, none⟩ = some (.int .i64 (xs.getD j 0)) := blk_cell hgr.out (hL.get hjl.out)
        generalize hy : xs.getD j 0 = y at hcell
        have hy' := Lib.hid hy
        clear hy
        go_wp2_with fail
        refine (deleter_calls wr B ta tn tc tb y hBr htr.out).mono ?_
        rintro e w2 ⟨rfl, rfl⟩
        by_cases hmem : y ∈ tb
        · simp only [hmem, decide_true]
          have hL' := Lib.hid (hL.skip hjl.out (by rw [hy'.out]; exact hmem))
          have hi' : Hid (i = (without tb (xs.take (j + 1))).length) := by
            show _ = _
            rw [without_snoc tb xs j hjl.out, hy'.out, if_pos hmem, List.append_nil]; exact hi.out
          clear hmem hcell hL hi
          go_wp2
          go_roundw
          case rel => exact ⟨i, j + 1, by omega, by omega, by go_num, by go_num, hi', hs, L, hL'.out, hgr⟩
          case measure => simp [intOf]; omega
        · simp only [hmem, decide_false]
          have hil : i < L.length := by rw [hL.1, hl'.out]; omega
          have hL' := Lib.hid (hL.keep hjl.out (by rw [hy'.out]; exact hmem) (by rw [← hi.out, hl'.out]; omega))
          have hi' : Hid (i + 1 = (without tb (xs.take (j + 1))).length) := by
            show _ = _
            rw [without_snoc tb xs j hjl.out, hy'.out, if_neg hmem, List.length_append, ← hi.out]; rfl
          have hci : ∃ u, wr.cell? ⟨g, i, none⟩ = some u := ⟨L[i], blk_cell hgr.out (by simp [hil])⟩
          obtain ⟨u, hci⟩ := hci
          have hfi : wr.frozen? ⟨g, i, none⟩ = false := blk_free hgr.out
          have hgn := Lib.hid (blk_set (o := i) (v := .int .i64 y) hgr.out)
          have hsn := hs.trans (Sole.set g i wr (.int .i64 y))
          clear hmem hcell hL hil hs hBr
          go_wp2
          go_roundw
          case rel => exact ⟨i + 1, j + 1, by omega, by omega, by go_num, by go_num, hi', hsn, _, by have := hL'.out; rw [← hi.out, hy'.out] at this; exact this, hgn⟩
          case measure => simp [intOf]; omega
      · obtain rfl : j = n := by omega
        have he : xs.take j = xs := List.take_of_length_le (by rw [hl'.out]; omega)
        have hi2 : i = (without tb xs).length := by have := hi.out; rwa [he] at this
        have hL2 : DelCells tb xs xs.length L := by rw [hl'.out]; exact hL
        have hdone := hL2.done
        have hLl : L.length = j := by rw [hL.1, hl'.out]
        rw [hl'.out, ← hi2] at hdone
        have hd' := Lib.hid hdone
        have hi2' := Lib.hid hi2
        have hLl' := Lib.hid hLl
        clear hL hL2 hdone hi2 hLl he hi hBr htr
        obtain ⟨i0, hin, hz0, hz1, hz2⟩ := info_parts infoInt
        have hin' := Lib.hid hin
        have hz0' := Lib.hid hz0
        clear hin hz0 hz1 hz2
        have hcut := fun u => run_cut_low (P := Try.prog) u 22 3 (some ⟨g, 0, none⟩) j c i .i64 Try.underlying22 sizeInt (i : Int) rfl (by omega)
        have hcut2 := fun u => run_cut_high (P := Try.prog) u 22 3 (some ⟨g, 0, none⟩) j c i .i64 Try.underlying22 sizeInt (i : Int) rfl (by omega)
        have hpos : Hid (0 < j - i → cutA (some ⟨g, 0, none⟩) c i = some ⟨g, i, none⟩) := fun hp => by have := cutA_lt (mx := c) (lo := i) (b := g) (o := 0) (by omega); simpa using this
        have hfit : Hid (i + (j - i) ≤ L.length) := by show _ ≤ _; rw [hLl'.out]; omega
        go_wp2_with (first
          | (with_reducible refine wpl_clear rfl (.tmp 38) 22 3 rfl Try.underlying22 hin'.out hz0'.out g i (j - i) _ _ rfl hpos.out L 3 hgr.out hfit.out ?_))
        intro w3 hg3 hs3
        have hs4 := hs.trans hs3
        clear hs hs3 hcut
        go_wp2
        go_ret
        exact ⟨by rw [← hi2'.out]; rfl, by rw [hg3.out, ← List.append_assoc, hd'.out, ← hi2'.out], hs4⟩

theorem ldelete_nil (w : World) (B : Nat) (ta : Option Addr) (tn tc : Nat) (tb : List Int) (hB : w.cell? ⟨B, 0, none⟩ = some (.slice ta tn tc)) (ht : Rd .i64 w ta tn tc tb) :
    Calls Try.prog 33 #[.slice none 0 0, .func (.func 34) #[] #[.pointer (some ⟨B, 0, none⟩)]] w fun e w' => e = .returned (.slice none 0 0) ∧ w = w' := by
  go_enter Try.func33, Try.ntmps33
  go_wp2_with fail
  refine (indexDel_calls w none 0 0 [] B ta tn tc tb (Rd.nil _ _) hB ht).mono ?_
  rintro e w1 ⟨rfl, ⟨rfl, hno⟩ | ⟨k0, rfl, hk0, hno, hyes⟩⟩
  · clear hno hB
    go_wp2
    go_ret
    exact ⟨rfl, rfl⟩
  · omega

end Go.Proofs.Ytgmnonijhgipbaa

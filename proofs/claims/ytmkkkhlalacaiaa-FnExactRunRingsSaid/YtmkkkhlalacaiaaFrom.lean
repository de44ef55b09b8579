/- (spec.Rings).From. -/
import Derived.Test.YtmkkkhlalacaiaaRr
import Derived.Deep.RegionLaw
namespace Go.Proofs.Ytmkkkhlalacaiaa
open Go.RowKit
open Go.Proofs.Ytmkkkhlalacaiaa.Rm
set_option linter.unusedVariables false

/-- append(out, ys...), run. -/
theorem run_join {P : Program} (w : World) (T E ty : TypeId) {z : Value} {bytes : Nat} (hu : P.underlying T = some (.slice E)) (hin : (P.info? E).map (fun i => (i.zero, i.size, i.bytes)) = some (some z, 1, bytes)) (hz : z.cells.size = 1)
    (base : Nat) (v : Value) (xs ys : List Value) (hy : ∀ y, y ∈ ys → y.oneCell' = true) (ad : Option Addr) (m c : Nat) (hm : ys.length = m) (hn : ad = none → m = 0 ∧ c = 0)
    (hc : ∀ ad', ad = some ad' → ∀ j u, ys[j]? = some u → w.cell? (ad'.add j) = some u)
    (hown : Own E base w v xs) (hlen : xs.length + m ≤ maxLen) (hbytes : (xs.length + m) * bytes ≤ 140737488355328) (hbase : base ≤ w.heap.size) :
    ∃ v' w', (Builtin.append_ #[T, T] ty #[v, .slice ad m c]).run P w = .ok v' w' ∧ Own E base w' v' (xs ++ ys) ∧ Pushed w w' v v' := by
  obtain ⟨i0, hi, hz0, hz1, hz2⟩ := info_parts hin
  cases ad with
  | none =>
    obtain ⟨rfl, rfl⟩ := hn rfl
    obtain rfl : ys = [] := List.eq_nil_of_length_eq_zero hm
    refine ⟨v, w, ?_, by simpa using hown, ⟨⟨rfl, rfl, rfl, Nat.le_refl _, fun _ _ _ => rfl⟩, .inl rfl⟩⟩
    rcases hown.form with ⟨rfl, rfl⟩ | ⟨g, cap, cur, rfl, _, hh, h3, _, h5, h6⟩
    · simp [Builtin.append_, run_underlying hu, sizeOf, typeInfo, hi, Builtin.lenOf, Builtin.firstCells]
    · simp [Builtin.append_, run_underlying hu, sizeOf, typeInfo, hi, Builtin.lenOf, Builtin.firstCells, h3, storeCells]
  | some ad =>
    obtain ⟨v', w', h1, h2, h3, _, h4⟩ := run_append_own_at (P := P) w base T ty E i0 z 1 bytes hu hi hz0 hz1 hz2 hz (by omega) v xs.length xs hown ad m c ys (by simpa using hm) (hc ad rfl) hy hlen hbytes hbase
    refine ⟨v', w', h1, by simpa [Own, hm] using h2, ⟨h3, ?_⟩⟩
    rcases h4 with h4 | h4
    · exact .inl h4
    · exact .inr ⟨_, h4, Nat.le_refl _⟩
/-- .. as a step of a region that draws its order. -/
theorem step_join {P : Program} {ops : Array Oper} {o : Oper} {a : Act} {w : World} {K : Act → World → Prop} {Q : Exit → Act → World → Prop} {E' : Prop} (hgd : o.guard = none) (s x : Operand) (T E : TypeId) (ho : o.op = .call { callee := .builtin .append, args := #[s, x], argTypes := #[T, T] })
    {z : Value} {bytes : Nat} (hu : P.underlying T = some (.slice E)) (hin : (P.info? E).map (fun i => (i.zero, i.size, i.bytes)) = some (some z, 1, bytes)) (hz : z.cells.size = 1)
    (base : Nat) (v : Value) (xs ys : List Value) (hy : ∀ y, y ∈ ys → y.oneCell' = true) (hs : a.eval s = v) (ad : Option Addr) (m c : Nat) (hx : a.eval x = .slice ad m c) (hm : ys.length = m) (hn : ad = none → m = 0 ∧ c = 0)
    (hc : ∀ ad', ad = some ad' → ∀ j u, ys[j]? = some u → w.cell? (ad'.add j) = some u)
    (hown : Own E base w v xs) (hlen : xs.length + m ≤ maxLen) (hbytes : (xs.length + m) * bytes ≤ 140737488355328) (hbase : base ≤ w.heap.size)
    (h : ∀ v' w', Own E base w' v' (xs ++ ys) → Pushed w w' v v' → K (a.put o.dst v') w') :
    if Region.wanted o (yielded ops a.tmps) = true then Oper.wp P o a w K Q else E' := by
  have hw : Region.wanted o (yielded ops a.tmps) = true := by simp [Region.wanted, hgd]
  rw [if_pos hw]
  obtain ⟨v', w', hr, h1, h2⟩ := run_join (P := P) w T E o.type hu hin hz base v xs ys hy ad m c hm hn hc hown hlen hbytes hbase
  unfold Oper.wp
  simp [execOp, ho, resolve, invoke, builtin, hs, hx, hr, Result.andThen]
  exact h v' w' h1 h2

theorem from_at {t1 t2 : List (List Nat)} {l : List Nat} {i : Nat} (h1 : ∀ l', l' ∈ t1 → i ∉ l') (h : i ∈ l) : from' (t1 ++ l :: t2) i = turn l i := by
  induction t1 with
  | nil => simp [from', h]
  | cons a t ih =>
    have ha := h1 a (by simp)
    simp only [List.cons_append, from', if_neg ha]
    exact ih (fun l' hl => h1 l' (by simp [hl]))
theorem from_none {t : List (List Nat)} {i : Nat} (h1 : ∀ l', l' ∈ t → i ∉ l') : from' t i = [] := by
  induction t with
  | nil => rfl
  | cons a t ih =>
    simp only [from', if_neg (h1 a (by simp))]
    exact ih (fun l' hl => h1 l' (by simp [hl]))

/-- What (spec.Rings).From comes to. -/
def ListOut (w : World) (l : List Int) (e : Ending) (w' : World) : Prop := ∃ a n c, e = .returned (.slice a n c) ∧ Rd .i64 w' a n c l ∧ Below w.heap.size w w'

theorem sizeIntR : (Try.prog.info? 3).map (·.size) = some 1 := by kernel_rfl
theorem nats_getD (l : List Nat) (j : Nat) (h : j < l.length) : (nats l).getD j 0 = (l[j] : Int) := by simp [nats, List.getD_eq_getElem?_getD, h]
theorem nats_drop (l : List Nat) (j : Nat) : nats (l.drop j) = (nats l).drop j := by simp [nats]
theorem nats_take (l : List Nat) (j : Nat) : nats (l.take j) = (nats l).take j := by simp [nats]

set_option maxHeartbeats 1000000 in
theorem from_calls (w : World) (a : Option Addr) (n c : Nat) (t : List (List Nat)) (i : Nat) (h : Rr w a n c t) (hn : n ≤ 100000) (hl : ∀ l, l ∈ t → l.length ≤ 100000) (hi : i ≤ 100000) :
    Calls Try.prog 25 #[.slice a n c, .int .i64 (i : Int)] w (ListOut w (nats (from' t i))) := by
  have hle := h.2.1
  have hcm := h.2.2.1
  have htl := h.1
  have h' := Lib.hid h
  clear h
  go_enter Try.func25, Try.ntmps25
  go_wp2
  go_loop [11] (fun v => ∃ k : Nat, k ≤ n ∧ v = .int .i64 (k : Int) ∧ Hid (∀ l, l ∈ t.take k → i ∉ l)) (fun v => n - (intOf v).toNat)
  case atStart => exact ⟨0, Nat.zero_le _, rfl, fun l h => by simp at h⟩
  case round =>
    obtain ⟨k, hk, rfl, hnone⟩ := hrel
    by_cases hlt : k < n
    · obtain ⟨l, hlk⟩ : ∃ l, t[k]? = some l := ⟨_, List.getElem?_eq_getElem (by omega)⟩
      obtain ⟨b, off, a1, n1, c1, rfl, hb, hc, hr⟩ := h'.out.2.2.2 k l hlk
      have hr' := Lib.hid hr
      have hle1 := hr.le
      have hlen1 := hr.len
      have hn1 : n1 ≤ 100000 := by rw [← hlen1, nats_length]; exact hl l (List.mem_of_getElem? hlk)
      have hlen1' := Lib.hid hlen1
      have hlk' := Lib.hid hlk
      clear hlen1 hlk hr
      go_wp2
      go_loop [17] (fun v => ∃ j : Nat, j ≤ n1 ∧ v = .int .i64 (j : Int) ∧ Hid (∀ q, q < j → l[q]? ≠ some i)) (fun v => n1 - (intOf v).toNat)
      case atStart => exact ⟨0, Nat.zero_le _, rfl, fun q h => by omega⟩
      case round =>
        clear hc
        obtain ⟨j, hj, rfl, hbefore⟩ := hrel
        by_cases hjlt : j < n1
        · obtain ⟨b1, off1, rfl, hb1, hcell⟩ := hr'.out.at (by omega)
          have hc1 := hcell j hjlt
          have hjl : j < l.length := by have := hlen1'.out; rw [nats_length] at this; omega
          rw [nats_getD l j hjl] at hc1
          clear hcell
          by_cases heq : l[j] = i
          · have hcutL := fun u => run_cut_low (P := Try.prog) u 33 3 (some ⟨b1, off1, none⟩) n1 c1 j .i64 Try.underlying33 sizeIntR (j : Int) (by omega) (by omega)
            have hcutH := fun u => run_cut_high (P := Try.prog) u 33 3 (some ⟨b1, off1, none⟩) n1 c1 j .i64 Try.underlying33 sizeIntR (j : Int) (by omega) (by omega)
            have t1 : ((l[j] : Int) == (i : Int)) = true := by simp; omega
            rw [heq] at hc1
            have hb0 : Below w.heap.size w (w.drew.alloc (.cells #[] 3)) := (below_drewN (Below.refl w.heap.size w) 1).alloc (Nat.le_refl _) _
            have o1 : Own 3 w.heap.size (w.drew.alloc (.cells #[] 3)) (.slice (some ⟨w.heap.size, 0, none⟩) 0 0) [] := Own.empty 3 w.heap.size w.drew (Nat.le_refl _)
            have hlen2 : (nats l).length = n1 := hlen1'.out
            have r1 : Rd .i64 (w.drew.alloc (.cells #[] 3)) (cutA (some ⟨b1, off1, none⟩) c1 j) (n1 - j) (c1 - j) ((nats l).drop j) := by
              have := (hr'.out.below hb0 (Nat.le_refl _)).cut (lo := j) (hi := n1) (by omega) (Nat.le_refl _)
              rwa [List.take_of_length_le (by omega)] at this
            have r2 : Hid (∀ u, Below w.heap.size w u → Rd .i64 u (some ⟨b1, off1, none⟩) j c1 ((nats l).take j)) := by
              intro u hu
              have := (hr'.out.below hu (Nat.le_refl _)).cut (lo := 0) (hi := j) (by omega) (by omega)
              simpa [cutA_zero] using this
            have hm1 : (((nats l).drop j).map (Value.int .i64)).length = n1 - j := by simp; omega
            have hm2 : (((nats l).take j).map (Value.int .i64)).length = j := by simp; omega
            have hs0 := hb0.size
            have hturn : Hid (from' t i = turn l i) := by
              have ht : t = t.take k ++ l :: t.drop (k + 1) := by
                have hk' : k < t.length := by omega
                have e := List.getElem?_eq_some_iff.1 hlk'.out
                rw [← e.2, ← List.drop_eq_getElem_cons, List.take_append_drop]
              show from' t i = turn l i
              rw [ht]
              exact from_at hnone.out (List.mem_iff_getElem.2 ⟨j, hjl, heq⟩)
            have hidx : Hid (l.idxOf i = j) := by
              show l.idxOf i = j
              rw [← heq]
              have e2 : ∀ q, q < j → ∀ hq : q < l.length, l[q] ≠ l[j] := fun q hq hql e => hbefore.out q hq (by rw [List.getElem?_eq_getElem hql, e, heq])
              rw [List.idxOf, List.findIdx_eq (by omega)]
              exact ⟨by simp, fun q hq => by simpa using e2 q hq (by omega)⟩
            clear t1
            have t1 : ((i : Int) == (i : Int)) = true := by simp
            go_wp2
            go_region_law (first
              | (refine step_join rfl (.tmp 25) (.tmp 28) 33 3 rfl Try.underlying33 infoIntR rfl w.heap.size _ [] (((nats l).drop j).map (Value.int .i64)) (ints_one .i64 _) rfl _ _ _ rfl hm1 r1.2.2.2.1 r1.cells o1 (by simp [maxLen]; omega) (by simp; omega) hs0 ?_; intro v1 w5 o2 pu1; have hb5 : Below w.heap.size w w5 := hb0.trans (pu1.below hs0 (fun k hk => (o1.lt hk).1)))
              | (refine step_join rfl (.tmp 29) (.tmp 32) 33 3 rfl Try.underlying33 infoIntR rfl w.heap.size _ _ (((nats l).take j).map (Value.int .i64)) (ints_one .i64 _) rfl _ _ _ rfl hm2 (r2.out _ hb5).2.2.2.1 (r2.out _ hb5).cells o2 (by simp [maxLen]; omega) (by simp; omega) hb5.size ?_; intro v2 w6 o3 pu2))
            go_wp2
            rw [List.nil_append, ← List.map_append] at o3
            obtain ⟨a7, n7, c7, rfl, r7⟩ := o3.rd
            have hb6 : Below w.heap.size w w6 := hb5.trans (pu2.below hb5.size (fun k hk => (o2.lt hk).1))
            go_ret
            refine ⟨a7, n7, c7, rfl, ?_, hb6⟩
            rw [hturn.out]
            unfold turn
            rw [hidx.out, nats_append, nats_drop, nats_take]
            exact r7
          · have hne : ¬ ((l[j] : Int) = (i : Int)) := by omega
            have t1 : ((l[j] : Int) == (i : Int)) = false := by simp; omega
            have hbefore2 : Hid (∀ q, q < j + 1 → l[q]? ≠ some i) := by
              intro q hq
              by_cases e : q = j
              · subst e; rw [List.getElem?_eq_getElem hjl]; simpa using heq
              · exact hbefore.out q (by omega)
            clear heq hbefore
            go_wp2
            go_round
            case rel => exact ⟨j + 1, hjlt, by go_num, hbefore2⟩
            case measure => simp [intOf]; omega
        · obtain rfl : j = n1 := by omega
          have q : ¬ ((j : Int) < (j : Int)) := by omega
          have hnone2 : Hid (∀ l', l' ∈ t.take (k + 1) → i ∉ l') := by
            intro l' hl'
            rw [List.take_add_one, hlk'.out] at hl'
            rcases List.mem_append.1 hl' with h1 | h1
            · exact hnone.out l' h1
            · simp at h1
              subst h1
              intro hmem
              obtain ⟨q, hq, e⟩ := List.mem_iff_getElem.1 hmem
              exact hbefore.out q (by have := hlen1'.out; rw [nats_length] at this; omega) (by rw [List.getElem?_eq_getElem hq, e])
          clear hnone hbefore
          go_wp2
          go_round
          case rel => exact ⟨k + 1, hlt, by go_num, hnone2⟩
          case measure => simp [intOf]; omega
    · obtain rfl : k = n := by omega
      have q : ¬ ((k : Int) < (k : Int)) := by omega
      have e : t.take k = t := List.take_of_length_le (by omega)
      have hno := hnone.out
      rw [e] at hno
      have hf := Lib.hid (from_none hno)
      clear hno e hnone
      go_wp2
      go_ret
      exact ⟨_, _, _, rfl, by rw [hf.out]; exact Rd.mk' rfl (Nat.le_refl _) (by unfold maxLen; omega) (fun h => by omega) (fun i hi => by omega), (Below.refl _ _).alloc (Nat.le_refl _) _⟩
end Go.Proofs.Ytmkkkhlalacaiaa

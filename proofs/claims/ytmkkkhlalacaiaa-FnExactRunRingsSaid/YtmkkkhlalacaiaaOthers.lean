/- (spec.Rings).Others. -/
import Derived.Test.YtmkkkhlalacaiaaFrom
import Derived.Test.YtmkkkhlalacaiaaOwnL
namespace Go.Proofs.Ytmkkkhlalacaiaa
open Go.RowKit
open Go.Proofs.Ytmkkkhlalacaiaa.Rm
set_option linter.unusedVariables false

/-- Whether a ring has none of two elements. -/
def keepB (x y : Nat) (l : List Nat) : Bool := !(decide (x ∈ l) || decide (y ∈ l))
theorem keepB_snoc (x y : Nat) (l : List Nat) (z : Nat) : keepB x y (l ++ [z]) = (keepB x y l && !(decide (z = x) || decide (z = y))) := by
  unfold keepB
  have e1 : decide (x ∈ l ++ [z]) = (decide (x ∈ l) || decide (z = x)) := by
    by_cases h1 : x ∈ l
    · simp [h1]
    · by_cases h3 : z = x
      · subst h3; simp
      · simp [h1, h3, Ne.symm h3]
  have e2 : decide (y ∈ l ++ [z]) = (decide (y ∈ l) || decide (z = y)) := by
    by_cases h1 : y ∈ l
    · simp [h1]
    · by_cases h3 : z = y
      · subst h3; simp
      · simp [h1, h3, Ne.symm h3]
  rw [e1, e2]
  cases decide (x ∈ l) <;> cases decide (y ∈ l) <;> cases decide (z = x) <;> cases decide (z = y) <;> rfl
theorem others_snoc (t : List (List Nat)) (l : List Nat) (x y : Nat) : others (t ++ [l]) x y = others t x y ++ (if keepB x y l = true then [l] else []) := by
  unfold others keepB
  rw [List.filter_append]
  congr 1
  by_cases h : (!(decide (x ∈ l) || decide (y ∈ l))) = true
  · rw [if_pos h, List.filter_cons, if_pos h]; rfl
  · rw [if_neg h, List.filter_cons, if_neg h]; rfl
theorem others_length (t : List (List Nat)) (x y : Nat) : (others t x y).length ≤ t.length := List.length_filter_le _ _

/-- A slice of slices that is made of slices below block U. -/
def RlsU (U base : Nat) (w : World) (v : Value) (t : List (List Nat)) : Prop :=
  ∃ vs : List Value, Own 33 base w v vs ∧ vs.length = t.length ∧ ∀ (i : Nat) l, t[i]? = some l → ∃ a n c, vs[i]? = some (Value.slice a n c) ∧ Rd .i64 w a n c (nats l) ∧ ∀ ad, a = some ad → ad.block < U
theorem RlsU.rls {U base : Nat} {w : World} {v : Value} {t : List (List Nat)} (h : RlsU U base w v t) (h1 : U ≤ base) (h2 : U ≤ w.heap.size) : Rls base w v t := by
  obtain ⟨vs, o1, o2, o3⟩ := h
  refine ⟨vs, o1, o2, fun i l hl => ?_⟩
  obtain ⟨a, n, c, e, r, q⟩ := o3 i l hl
  exact ⟨a, n, c, e, r, fun ad ha => ⟨fun hq => by have := (o1.lt hq).1; have := q ad ha; omega, by have := q ad ha; omega⟩⟩
theorem RlsU.push {U base : Nat} {w w' : World} {v v' : Value} {t : List (List Nat)} {vs : List Value} {a : Option Addr} {n c : Nat} {l : List Nat} (hU : U ≤ base) (hb : base ≤ w.heap.size) (h1 : Own 33 base w v vs) (h2 : vs.length = t.length)
    (h3 : ∀ (i : Nat) l, t[i]? = some l → ∃ a n c, vs[i]? = some (Value.slice a n c) ∧ Rd .i64 w a n c (nats l) ∧ ∀ ad, a = some ad → ad.block < U)
    (hr : Rd .i64 w a n c (nats l)) (hn : ∀ ad, a = some ad → ad.block < U) (ho : Own 33 base w' v' (vs ++ [Value.slice a n c])) (hp : Pushed w w' v v') : RlsU U base w' v' (t ++ [l]) := by
  have key : ∀ {a n c l}, Rd .i64 w a n c (nats l) → (∀ ad, a = some ad → ad.block < U) → Rd .i64 w' a n c (nats l) := fun hr hn => hr.keep hp.size (fun ad ha => by
    have := hn ad ha
    exact hp.other (by omega) (fun e => by have := (h1.lt e).1; omega))
  refine ⟨_, ho, by simp [h2], fun i l' hl => ?_⟩
  by_cases c1 : i < t.length
  · rw [List.getElem?_append_left c1] at hl
    obtain ⟨a', n', c', e, hr', hn'⟩ := h3 i l' hl
    exact ⟨a', n', c', by rw [List.getElem?_append_left (by omega)]; exact e, key hr' hn', hn'⟩
  · have hi : i = t.length := by
      have := (List.getElem?_eq_some_iff.1 hl).1
      simp at this; omega
    subst hi
    simp at hl
    subst hl
    exact ⟨a, n, c, by rw [← h2]; simp, key hr hn, hn⟩
theorem RlsU.empty (U : Nat) (w : World) : RlsU U w.heap.size (w.alloc (.cells #[] 33)) (.slice (some ⟨w.heap.size, 0, none⟩) 0 0) [] :=
  ⟨[], Own.empty _ _ _ (Nat.le_refl _), rfl, fun i l h => by simp at h⟩

/-- What Others comes to, of rings that lay in memory in world w0. -/
def OthersU (w0 w : World) (t : List (List Nat)) (e : Ending) (w' : World) : Prop := ∃ v, e = .returned v ∧ RlsU w0.heap.size w.heap.size w' v t ∧ Below w.heap.size w w'
/-- What Others comes to. -/
def OthersPost (w : World) (t : List (List Nat)) (e : Ending) (w' : World) : Prop := ∃ v, e = .returned v ∧ Rls w.heap.size w' v t ∧ Below w.heap.size w w'
/-- The loop's relation. -/
structure Oth (z w0 w : World) (v : Value) (t : List (List Nat)) : Prop where
  rls : RlsU z.heap.size w0.heap.size w v t
  below : Below w0.heap.size w0 w

set_option maxHeartbeats 1000000 in
theorem othersU_calls (z w : World) (a : Option Addr) (n c : Nat) (t : List (List Nat)) (x y : Nat) (hz0 : Rr z a n c t) (hzw : Below z.heap.size z w) (hn : n ≤ 100000) (hl : ∀ l, l ∈ t → l.length ≤ 100000) (hne : ∀ l, l ∈ t → l ≠ []) (hx : x ≤ 100000) (hy : y ≤ 100000) :
    Calls Try.prog 39 #[.slice a n c, .int .i64 (x : Int), .int .i64 (y : Int)] w (OthersU z w (others t x y)) := by
  have h := hz0.below hzw (Nat.le_refl _)
  have hz0' := Lib.hid hz0
  have hzw' := Lib.hid hzw
  have hzs := hzw.size
  clear hz0 hzw
  have hle := h.2.1
  have hcm := h.2.2.1
  have htl := Lib.hid h.1
  have h' := Lib.hid h
  have h0 : Hid (Oth z w (w.alloc (.cells #[] 33)) (.slice (some ⟨w.heap.size, 0, none⟩) 0 0) (others (t.take 0) x y)) := ⟨RlsU.empty _ w, (Below.refl _ _).alloc (Nat.le_refl _) _⟩
  clear h
  go_enter Try.func39, Try.ntmps39
  go_wp2
  go_loopw [7, 16] (fun v i wr => ∃ k : Nat, k ≤ n ∧ i = .int .i64 (k : Int) ∧ Hid (Oth z w wr v (others (t.take k) x y))) (fun _ i _ => n - (intOf i).toNat)
  case atStart => exact ⟨0, Nat.zero_le _, rfl, h0⟩
  case round =>
    clear h0
    obtain ⟨k, hk, rfl, hO⟩ := hrel
    by_cases hlt : k < n
    · obtain ⟨l, hlk⟩ : ∃ l, t[k]? = some l := ⟨_, List.getElem?_eq_getElem (by rw [htl.out]; exact hlt)⟩
      obtain ⟨b, off, a1, n1, c1, rfl, hb, hc, hr⟩ := (h'.out.below hO.out.below (Nat.le_refl _)).2.2.2 k l hlk
      have hr' := Lib.hid hr
      have hle1 := hr.le
      have hmem := List.mem_of_getElem? hlk
      have hlen1 := hr.len
      rw [nats_length] at hlen1
      have hn1 : n1 ≤ 100000 := by rw [← hlen1]; exact hl l hmem
      have hpos1 : 0 < n1 := by rw [← hlen1]; exact List.length_pos_iff.2 (hne l hmem)
      have hlen1' := Lib.hid hlen1
      have htk : Hid (t.take (k + 1) = t.take k ++ [l]) := by show _ = _; rw [List.take_add_one, hlk]; rfl
      have hsub : Hid (∀ ad, a1 = some ad → ad.block < z.heap.size) := by
        obtain ⟨b2, off2, a2, n2, c2, e2, _, hc2, hr2⟩ := hz0'.out.2.2.2 k l hlk
        have e3 := (hzw'.out.trans (hO.out.below.mono hzs)).cell (p := ⟨b, off + k, none⟩) (by cases e2; assumption)
        cases e2
        rw [hc, hc2] at e3
        simp only [Option.some.injEq, Value.slice.injEq] at e3
        obtain ⟨rfl, rfl, rfl⟩ := e3
        intro ad e
        obtain ⟨b4, o4, e4, h4, _⟩ := hr2.at hpos1
        rw [e] at e4; cases e4; exact h4
      obtain ⟨b1, off1, rfl, hb1, hcell⟩ := hr.at hpos1
      have hcell' := Lib.hid hcell
      clear hlen1 hlk hr hmem hcell
      go_wp2
      go_loop [10, 22] (fun v i => ∃ j : Nat, j ≤ n1 ∧ i = .int .i64 (j : Int) ∧ v = .bool (keepB x y (l.take j))) (fun _ i => n1 - (intOf i).toNat)
      case atStart => exact ⟨0, Nat.zero_le _, rfl, by simp [keepB]⟩
      case round =>
        clear hc
        obtain ⟨j, hj, rfl, rfl⟩ := hrel
        by_cases hjlt : j < n1
        · have hc1 := hcell'.out j hjlt
          have hjl : j < l.length := by rw [hlen1'.out]; exact hjlt
          rw [nats_getD l j hjl] at hc1
          have hsn : Hid (keepB x y (l.take (j + 1)) = (keepB x y (l.take j) && !(decide (l[j] = x) || decide (l[j] = y)))) := by
            show _ = _
            rw [List.take_succ_eq_append_getElem hjl]; exact keepB_snoc x y _ _
          have hz : l[j] ≤ 9223372036854775807 ∨ True := .inr trivial
          generalize l[j] = z at hc1 hsn
          generalize keepB x y (l.take j) = kb at hsn ⊢
          by_cases e1 : z = x
          · have t1 : ((z : Int) == (x : Int)) = true := by simp [e1]
            have e1' := Lib.hid e1
            clear e1
            go_wp2
            go_round
            case rel => exact ⟨j + 1, hjlt, by go_num, by rw [hsn.out, e1'.out]; simp⟩
            case measure => simp [intOf]; omega
          · have t1 : ((z : Int) == (x : Int)) = false := by simp; omega
            by_cases e2 : z = y
            · have t2 : ((z : Int) == (y : Int)) = true := by simp [e2]
              have e2' := Lib.hid e2
              clear e1 e2
              go_wp2
              go_round
              case rel => exact ⟨j + 1, hjlt, by go_num, by rw [hsn.out, e2'.out]; simp⟩
              case measure => simp [intOf]; omega
            · have t2 : ((z : Int) == (y : Int)) = false := by simp; omega
              have hs2 : Hid (keepB x y (l.take (j + 1)) = kb) := by show _ = _; rw [hsn.out]; simp [e1, e2]
              clear e1 e2
              go_wp2
              go_round
              case rel => exact ⟨j + 1, hjlt, by go_num, by rw [hs2.out]⟩
              case measure => simp [intOf]; omega
        · obtain rfl : j = n1 := by omega
          have q : ¬ ((j : Int) < (j : Int)) := by omega
          have el : l.take j = l := List.take_of_length_le (by rw [hlen1'.out]; exact Nat.le_refl _)
          rw [el]
          clear el
          have hos := Lib.hid (others_snoc (t.take k) l x y)
          by_cases hkb : keepB x y l = true
          · rw [hkb]
            have hkb' := Lib.hid hkb
            clear hkb
            obtain ⟨vs, o1, o2, o3⟩ := hO.out.rls
            obtain ⟨av, cv, rfl⟩ := own_len o1
            have hvs : vs.length ≤ 100000 := by rw [o2]; have := others_length (t.take k) x y; have : (t.take k).length ≤ k := List.length_take_le _ _; omega
            have hbw := Lib.hid hO.out.below
            have hs4 := hO.out.below.size
            have o3' := Lib.hid o3
            have o2' := Lib.hid o2
            clear o3 o2 hO
            go_wp2_with (first
              | (at_builtin; refine wpl_push rfl (.tmp 36) (.tmp 38) 29 33 rfl Try.underlying29 infoInts rfl _ _ _ (.slice (some ⟨b1, off1, none⟩) j c1) rfl rfl rfl o1 (by unfold maxLen; omega) (by omega) hs4 ?_))
            intro v' w5 ho6 hp5
            have hR : Hid (Oth z w w5 v' (others (t.take (k + 1)) x y)) := ⟨by rw [htk.out, hos.out, if_pos hkb'.out]; exact RlsU.push hzs hs4 o1 o2'.out o3'.out hr'.out hsub.out ho6 hp5, hbw.out.trans (hp5.below hbw.out.size (fun q hq => (o1.lt hq).1))⟩
            clear ho6 hp5 o1 hs4
            go_wp2
            go_roundw
            case rel => exact ⟨k + 1, hlt, by go_num, hR⟩
            case measure => simp [intOf]; omega
          · have hkf : keepB x y l = false := by simpa using hkb
            have hkb' := Lib.hid hkb
            rw [hkf]
            clear hkb hkf
            have e9 : others (t.take k) x y = others (t.take (k + 1)) x y := by rw [htk.out, hos.out, if_neg hkb'.out, List.append_nil]
            rw [e9] at hO
            clear e9
            go_wp2
            go_roundw
            case rel => exact ⟨k + 1, hlt, by go_num, hO⟩
            case measure => simp [intOf]; omega
    · obtain rfl : k = n := by omega
      have q : ¬ ((k : Int) < (k : Int)) := by omega
      go_wp2
      go_ret
      have e : t.take k = t := List.take_of_length_le (by rw [htl.out]; exact Nat.le_refl _)
      obtain ⟨m1, m2⟩ := hO.out
      rw [e] at m1
      exact ⟨_, rfl, m1, m2⟩

theorem others_calls (w : World) (a : Option Addr) (n c : Nat) (t : List (List Nat)) (x y : Nat) (h : Rr w a n c t) (hn : n ≤ 100000) (hl : ∀ l, l ∈ t → l.length ≤ 100000) (hne : ∀ l, l ∈ t → l ≠ []) (hx : x ≤ 100000) (hy : y ≤ 100000) :
    Calls Try.prog 39 #[.slice a n c, .int .i64 (x : Int), .int .i64 (y : Int)] w (OthersPost w (others t x y)) := by
  refine (othersU_calls w w a n c t x y h (Below.refl _ _) hn hl hne hx hy).mono ?_
  rintro e w' ⟨v, rfl, h1, h2⟩
  exact ⟨v, rfl, h1.rls (Nat.le_refl _) h2.size, h2⟩

end Go.Proofs.Ytmkkkhlalacaiaa

/- impl.made. -/
import Derived.Test.YtmkkkhlalacaiaaMk
import Derived.OpenShut
namespace Go.Proofs.Ytmkkkhlalacaiaa
open Go.RowKit
open Go.Proofs.Ytmkkkhlalacaiaa.Rm
set_option linter.unusedVariables false

theorem infoPtr : (Try.prog.info? 54).map (fun i => (i.zero, i.size, i.bytes)) = some (some (.pointer none), 1, 8) := by kernel_rfl
def lenV : Value → Nat
  | .slice _ n _ => n
  | _ => 0
/-- A bare element behind the others. -/
theorem Mk.bare {w0 w w' : World} {v v' : Value} {M : Nat} {Bk nx pv : Nat → Nat} (h : Mk w0 w v M M Bk nx pv)
    (ho : Own 54 w0.heap.size w' v' ((List.range M).map (fun k => ptr (Bk k)) ++ [ptr w.heap.size]))
    (hp : Pushed (w.alloc (.cells #[.pointer none, .pointer none, .iface 3 (.int .i64 (M : Int))] 68)) w' v v') :
    Mk w0 w' v' (M + 1) (M + 1) (jB M Bk fun k => w.heap.size + k) (jnx M 1 nx) (jpv M 1 pv) := by
  have hb1 : Below w.heap.size w (w.alloc (.cells #[.pointer none, .pointer none, .iface 3 (.int .i64 (M : Int))] 68)) := (Below.refl _ _).alloc (Nat.le_refl _) _
  have s1 : (w.alloc (.cells #[.pointer none, .pointer none, .iface 3 (.int .i64 (M : Int))] 68)).heap.size = w.heap.size + 1 := by simp
  have q1 := heap_alloc_new w (.cells #[.pointer none, .pointer none, .iface 3 (.int .i64 (M : Int))] 68)
  generalize w.alloc (.cells #[.pointer none, .pointer none, .iface 3 (.int .i64 (M : Int))] 68) = w1 at hb1 s1 q1 hp
  have r1 : Rg w1 Bk M nx pv (vals M) := h.rg.keep fun i hi => hb1.block _ (h.rg.lt hi)
  have r2 : Rg w1 (fun k => w.heap.size + k) 1 (cnx 1) (cpv 1) (fun k => .iface 3 (.int .i64 (M : Int))) := by
    refine ⟨c_inv 1, fun i j hi hj _ => by omega, fun i hi => .inr ?_⟩
    obtain rfl : i = 0 := by omega
    exact ⟨rfl, rfl, q1⟩
  have r3 := r1.join (Nat.le_refl 1) r2 (fun i j hi hj => by have := h.rg.lt hi; omega)
  have r4 : Rg w1 (jB M Bk fun k => w.heap.size + k) (M + 1) (jnx M 1 nx) (jpv M 1 pv) (vals (M + 1)) := by
    refine ⟨r3.inv, r3.inj, fun i hi => ?_⟩
    have e : (if i < M then vals M i else Value.iface 3 (.int .i64 (M : Int))) = vals (M + 1) i := by
      unfold vals
      by_cases c : i < M
      · simp [c, show i < M + 1 by omega]
      · obtain rfl : i = M := by omega
        simp
    have := r3.cell i hi
    simp only [Live, Bare] at this ⊢
    rw [e] at this
    exact this
  have o1 : Own 54 w0.heap.size w1 v ((List.range M).map fun k => ptr (Bk k)) := h.own.below hb1 (Nat.le_refl _)
  have e : ((List.range M).map fun k => ptr (jB M Bk (fun k => w.heap.size + k) k)) = (List.range M).map fun k => ptr (Bk k) := by
    apply List.map_congr_left
    intro k hk
    rw [List.mem_range] at hk
    simp [jB, hk]
  refine Mk.push (v := v) r4 (h.below.trans (hb1.mono h.below.size)) ?_ ?_ (by rw [e]; exact o1) (by rw [e, show jB M Bk (fun k => w.heap.size + k) M = w.heap.size by simp [jB]]; exact ho) hp
  · intro k hk
    unfold jB
    split
    · exact h.hi k (by omega)
    · have := h.below.size; show w0.heap.size ≤ w.heap.size + _; omega
  · intro k hk
    unfold jB
    split
    · exact h.ne k (by omega)
    · intro q
      have := (h.own.lt q).2
      simp only at this
      omega

/-- What impl.made comes to. -/
def MadePost (w : World) (xs : List Int) (e : Ending) (w' : World) : Prop :=
  ∃ v Bk nx pv, e = .returned v ∧ Mk w w' v (tot xs) (tot xs) Bk nx pv ∧ Rep (tot xs) nx (mk xs)

/-- The outer loop's relation. -/
structure MkAt (w0 w : World) (v : Value) (xs : List Int) (k : Nat) (Bk nx pv : Nat → Nat) : Prop where
  made : Mk w0 w v (tot (xs.take k)) (tot (xs.take k)) Bk nx pv
  rep : Rep (tot (xs.take k)) nx (mk (xs.take k))

set_option maxHeartbeats 1000000 in
theorem made_calls (w : World) (a : Option Addr) (n c : Nat) (xs : List Int) (h : Rd .u16 w a n c xs) (hf : ∀ x ∈ xs, (Lit.int .u16 x).wf = true) (hn : n ≤ 140737488351232) (ht : tot xs ≤ 65536) :
    Calls Try.prog 21 #[.slice a n c] w (MadePost w xs) := by
  have l := h.le
  have h' := Lib.hid h
  have hl := h.len
  have h0 : Hid (MkAt w (w.alloc (.cells #[] 54)) (.slice (some ⟨w.heap.size, 0, none⟩) 0 0) xs 0 id id id) := ⟨Mk.start w _ _ _, rep_none _⟩
  clear h
  go_enter Try.func21, Try.ntmps21
  go_wp2
  go_loopw [3, 11] (fun v i wr => ∃ k : Nat, k ≤ n ∧ i = .int .i64 (k : Int) ∧ ∃ Bk nx pv, Hid (MkAt w wr v xs k Bk nx pv)) (fun _ i _ => n - (intOf i).toNat)
  case atStart => exact ⟨0, Nat.zero_le _, rfl, id, id, id, h0⟩
  case round =>
    clear h0
    obtain ⟨k, hk, rfl, Bk, nx, pv, hM⟩ := hrel
    obtain ⟨a1, c1, rfl⟩ := own_slice hM.out.made.own
    simp only [List.length_map, List.length_range] at hM ⊢
    by_cases hlt : k < n
    · obtain ⟨b, off, rfl, _, hcell⟩ := (h'.out.below hM.out.made.below (Nat.le_refl _)).at (by omega)
      have hc := hcell k hlt
      clear hcell
      have hmem : xs.getD k 0 ∈ xs := by rw [List.getD_eq_getElem?_getD, List.getElem?_eq_getElem (by omega)]; exact List.getElem_mem _
      have hbd := Go.bounds_u16 (hf _ hmem)
      have htk : xs.take (k + 1) = xs.take k ++ [xs.getD k 0] := by
        rw [List.take_add_one, List.getD_eq_getElem?_getD, List.getElem?_eq_getElem (by omega)]; rfl
      have ht1 : tot (xs.take (k + 1)) ≤ 65536 := Nat.le_trans (tot_take_le _ _) ht
      generalize xs.getD k 0 = x at hc hbd htk
      obtain ⟨m, rfl⟩ := Int.eq_ofNat_of_zero_le hbd.1
      rw [htk, tot_snoc] at ht1
      have e1 := tot_snoc (xs.take k) (m : Int)
      have e2 := mk_snoc (xs.take k) (m : Int)
      rw [← htk] at e1 e2
      have hM1 := Lib.hid hM.out.made
      have hM2 := Lib.hid hM.out.rep
      have e1' := Lib.hid e1
      have e2' := Lib.hid e2
      clear hM hmem htk e1 e2
      have hpos := szN_pos (m : Int)
      generalize hMd : tot (xs.take k) = M at hM1 hM2 e1' e2' ht1
      have hMd' := Lib.hid hMd
      clear hMd
      by_cases hz : m = 0
      · subst hz
        have hs1 : Hid (szN ((0 : Nat) : Int) = 1) := rfl
        have hM1o : Own 54 w.heap.size (wr.alloc (.cells #[.pointer none, .pointer none, .iface 3 (.int .i64 (M : Int))] 68)) (.slice a1 M c1) ((List.range M).map fun k => ptr (Bk k)) := hM1.out.own.alloc _
        have hle : ((List.range M).map fun k => ptr (Bk k)).length = M := by simp
        have hbs : w.heap.size ≤ (wr.alloc (.cells #[.pointer none, .pointer none, .iface 3 (.int .i64 (M : Int))] 68)).heap.size := by have := hM1.out.below.size; simp; omega
        go_wp2_with (first
          | (at_builtin; refine wpl_push rfl (.tmp 17) (.tmp 23) 51 54 rfl Try.underlying51 infoPtr rfl w.heap.size _ _ (ptr wr.heap.size) rfl rfl (by simp [Act.eval]) hM1o (by rw [hle]; unfold maxLen; omega) (by rw [hle]; omega) hbs ?_))
        intro v' w5 ho6 hp5
        have hN := Lib.hid (hM1.out.bare ho6 hp5)
        have hrep := Lib.hid (j_rep hM2.out 1 (Nat.le_refl _))
        clear ho6 hp5 hM1o hle hbs hM1 hM2
        have hR : Hid (MkAt w w5 v' xs (k + 1) (jB M Bk fun k => wr.heap.size + k) (jnx M 1 nx) (jpv M 1 pv)) := ⟨by rw [e1'.out, hs1.out]; exact hN.out, by rw [e1'.out, e2'.out, hs1.out]; exact hrep.out⟩
        clear hN hrep
        go_wp2
        go_roundw
        case rel => exact ⟨k + 1, hlt, by go_num, _, _, _, hR⟩
        case measure => simp [intOf]; omega
      · have hs1 : Hid (szN (m : Int) = m) := by show szN (m : Int) = m; unfold szN; omega
        rw [hs1.out] at ht1
        have t0 : ((m : Int) == 0) = false := by simp; omega
        have t1 : decide ((m : Int) = 0) = false := by simp; omega
        have hmp : 1 ≤ m := by omega
        clear hz hpos
        go_wp2_with fail
        refine (new_calls wr m hmp (by omega)).mono ?_
        intro e w1 hnew
        have hN0 := hM1.out.new hmp hnew
        obtain ⟨rfl, _⟩ := hnew
        have hrep := Lib.hid (j_rep hM2.out m hmp)
        have hnx : Hid (∀ q, M ≤ q → jnx M m nx q = if q + 1 = M + m then M else q + 1) := fun q hq => by unfold jnx; rw [if_neg (by omega)]
        have hfirst : ptr wr.heap.size = ptr (jB M Bk (fun k => wr.heap.size + k) M) := by simp [jB]
        rw [hfirst]
        clear hfirst
        generalize (jB M Bk fun k => wr.heap.size + k) = Bk2 at hN0
        generalize jpv M m pv = pv2 at hN0
        generalize jnx M m nx = nx2 at hN0 hrep hnx
        have hN := Lib.hid hN0
        clear hN0 hM1 hM2 hc
        go_wp2
        go_loopw [3, 7] (fun v r wi => ∃ q : Nat, M ≤ q ∧ q < M + m ∧ r = ptr (Bk2 q) ∧ Hid (Mk w wi v (M + m) q Bk2 nx2 pv2)) (fun v _ _ => M + m - lenV v)
        case atStart => exact ⟨M, Nat.le_refl _, by omega, rfl, hN⟩
        case round =>
          clear hN
          obtain ⟨q, hq1, hq2, rfl, hN⟩ := hrel
          obtain ⟨a2, c2, rfl⟩ := own_slice hN.out.own
          simp only [List.length_map, List.length_range] at hN ⊢
          obtain ⟨v1, v2, v3⟩ := hN.out.value hq2
          have v1' := Lib.hid v1
          have v3' := Lib.hid v3
          have d0 := hN.out.rg.value hq2
          obtain ⟨cs, hblk⟩ := hN.out.rg.blk hq2
          have d1 : wr.frozen? ⟨Bk2 q, 2, none⟩ = false := blk_free hblk
          have hle : ((List.range q).map fun k => ptr (Bk2 k)).length = q := by simp
          have hbs := v3.size
          clear v1 v3 hblk
          go_wp2_with (first
            | (at_builtin; refine wpl_push rfl (.tmp 35) (.tmp 37) 51 54 rfl Try.underlying51 infoPtr rfl w.heap.size _ _ (ptr (Bk2 q)) rfl rfl (by simp [Act.eval]) v2 (by rw [hle]; unfold maxLen; omega) (by rw [hle]; omega) hbs ?_))
          intro v' w5 ho6 hp5
          have hN5 := Lib.hid (Mk.push v1'.out v3'.out hN.out.hi hN.out.ne v2 ho6 hp5)
          obtain ⟨a3, c3, hv'⟩ := own_slice hN5.out.own
          simp only [List.length_map, List.length_range] at hv'
          clear hle hbs v2 ho6 hp5 d0 d1 hN
          subst hv'
          go_wp2_with fail
          refine (next_calls w5 Bk2 (M + m) nx2 pv2 _ q hN5.out.rg hq2).mono ?_
          rintro e w6 ⟨rfl, r1, _, r3⟩
          have hN6 := Lib.hid (hN5.out.keep_rg r1 r3)
          clear r1 r3 hN5
          rw [hnx.out q hq1]
          have tq := fun j hj => (hN6.out.rg.ptr_eq (i := j) (j := M) hj (by omega)).1
          by_cases hend : q + 1 = M + m
          · rw [if_pos hend]
            have tq0 := tq M (by omega)
            simp only [decide_true] at tq0
            clear tq
            have hR : Hid (MkAt w w6 (.slice a3 (q + 1) c3) xs (k + 1) Bk2 nx2 pv2) := ⟨by rw [e1'.out, hs1.out, ← hend]; have := hN6.out; rwa [← hend] at this, by rw [e1'.out, e2'.out, hs1.out]; exact hrep.out⟩
            clear hN6
            go_wp2
            go_roundw
            case rel => exact ⟨k + 1, hlt, by go_num, _, _, _, by have := hR; rwa [hend] at this⟩
            case measure => simp [intOf]; omega
          · rw [if_neg hend]
            have tq0 := tq (q + 1) (by omega)
            rw [show decide (q + 1 = M) = false by simp; omega] at tq0
            clear tq
            go_wp2
            go_roundw
            case rel => exact ⟨q + 1, by omega, by omega, rfl, hN6⟩
            case measure => simp [lenV]; omega
    · obtain rfl : k = n := by omega
      have q : ¬ ((k : Int) < (k : Int)) := by omega
      go_wp2
      go_ret
      have e : xs.take k = xs := List.take_of_length_le (by omega)
      obtain ⟨m1, m2⟩ := hM.out
      rw [e] at m1 m2
      rw [e]
      exact ⟨_, Bk, nx, pv, rfl, m1, m2⟩
end Go.Proofs.Ytmkkkhlalacaiaa

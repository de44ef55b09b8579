/- Scripts of links, plain; laws.nexts; RunRings on drawn sizes. -/
import Derived.Test.YtmkkkhlalacaiaaRun
import Derived.Test.YtmkkkhlalacaiaaUse
import Derived.Test.YtmkkkhlalacaiaaSame
namespace Go.Proofs.Ytmkkkhlalacaiaa
open Go.RowKit
open Go.Proofs.Ytmkkkhlalacaiaa.Rm
set_option linter.unusedVariables false

theorem lnx_at {N : Nat} {nx pv : Nat → Nat} (hI : Inv N nx pv) {i j : Nat} (hi : i < N) (hj : j < N) : lnx nx pv i j i = j := by
  unfold lnx upd
  split
  · rename_i h
    have := hI.np j hj
    rw [← h] at this
    exact this
  · simp
/-- Linking an element with another one and then with what was next undoes it. -/
theorem relink {N : Nat} {nx pv : Nat → Nat} (hI : Inv N nx pv) {i j : Nat} (hi : i < N) (hj : j < N) : lnx (lnx nx pv i j) (lpv nx pv i j) i (nx i) = nx := by
  funext k
  have e1 : lpv nx pv i j (nx i) = pv j := by unfold lpv; rw [upd_same]
  have e2 := lnx_at hI hi hj
  show upd (upd (lnx nx pv i j) i (nx i)) (lpv nx pv i j (nx i)) (lnx nx pv i j i) k = nx k
  rw [e1, e2]
  by_cases h1 : k = pv j
  · rw [h1, upd_same, hI.np j hj]
  · rw [upd_ne _ h1]
    by_cases h2 : k = i
    · rw [h2, upd_same]
    · rw [upd_ne _ h2]
      unfold lnx
      rw [upd_ne _ h1, upd_ne _ h2]
/-- Two lists of rings that tell the same. -/
def Eqv (N : Nat) (t t' : List (List Nat)) : Prop := ∃ nx pv, Inv N nx pv ∧ Rep N nx t ∧ Rep N nx t'
theorem Eqv.from {N : Nat} {t t' : List (List Nat)} (h : Eqv N t t') {i : Nat} (hi : i < N) : from' t i = from' t' i := by
  obtain ⟨nx, pv, _, h1, h2⟩ := h
  exact (h1.from_ring hi).unique (h2.from_ring hi)
theorem Eqv.mv {N : Nat} {t t' : List (List Nat)} (h : Eqv N t t') {i : Nat} (hi : i < N) (z : Int) : mv t i z = mv t' i z := by
  unfold Go.Proofs.Ytmkkkhlalacaiaa.mv; rw [h.from hi]
theorem Eqv.nexts {N : Nat} {t t' : List (List Nat)} (h : Eqv N t t') : nextsT N t = nextsT N t' := by
  unfold nextsT
  apply List.map_congr_left
  intro k hk
  exact h.mv (List.mem_range.1 hk) 1
theorem Eqv.link {N : Nat} {t t' : List (List Nat)} (h : Eqv N t t') {i j : Nat} (hi : i < N) (hj : j < N) : Eqv N (Rm.link t i j) (Rm.link t' i j) := by
  obtain ⟨nx, pv, h0, h1, h2⟩ := h
  exact ⟨_, _, h0.link hi hj, h1.link h0 hi hj, h2.link h0 hi hj⟩
theorem Eqv.trans {N : Nat} {t t' t2 : List (List Nat)} (h : Eqv N t t') (h' : Eqv N t' t2) : Eqv N t t2 := by
  obtain ⟨nx, pv, h0, h1, h2⟩ := h
  obtain ⟨nx', pv', g0, g1, g2⟩ := h'
  have e : ∀ k, k < N → nx' k = nx k := fun k hk => by rw [g1.next g0 hk, h2.next h0 hk]
  refine ⟨nx, pv, h0, h1, fun l hl => ?_, g2.lt, g2.all⟩
  obtain ⟨x, hx⟩ := g2.ring l hl
  exact ⟨x, hx.congr fun k hk => (e k (g2.lt l hl k hk)).symm⟩
/-- A link, and the link back. -/
theorem link_back {N : Nat} {nx pv : Nat → Nat} {t : List (List Nat)} (hI : Inv N nx pv) (hR : Rep N nx t) {i j : Nat} (hi : i < N) (hj : j < N) : Eqv N (Rm.link (Rm.link t i j) i (mv t i 1)) t ∧ mv (Rm.link t i j) i 1 = j := by
  have h1 := hR.link hI hi hj
  have hI1 := hI.link hi hj
  have hn := hI.nlt i hi
  have h2 := h1.link hI1 hi hn
  rw [relink hI hi hj] at h2
  rw [← hR.next hI hi]
  refine ⟨⟨nx, pv, hI, h2, hR⟩, ?_⟩
  rw [← h1.next hI1 hi, lnx_at hI hi hj]
theorem Rm.Rep.eqv {N : Nat} {nx pv : Nat → Nat} {t t' : List (List Nat)} (h : Rep N nx t) (hI : Inv N nx pv) (h' : Rep N nx t') : Eqv N t t' := ⟨nx, pv, hI, h, h'⟩

abbrev bLink : ByteArray := ⟨#[108, 105, 110, 107]⟩
abbrev bUnlink : ByteArray := ⟨#[117, 110, 108, 105, 110, 107]⟩
theorem bLink_list : bLink.toList = kLink := by simp [ByteArray.toList_eq]
theorem bUnlink_list : bUnlink.toList = kUnlink := by simp [ByteArray.toList_eq]
theorem res_link (t : List (List Nat)) (i j : Nat) (z : Int) : resT t ⟨bLink, i, j, z⟩ = (mv t i 1 : Nat) := by
  unfold resT; simp only [bLink_list]; rfl
theorem st_link (t : List (List Nat)) (i j : Nat) (z : Int) : stT t ⟨bLink, i, j, z⟩ = Rm.link t i j := by
  unfold stT; simp only [bLink_list]; rfl
theorem res_unlink (t : List (List Nat)) (i j : Nat) (z : Int) (hz : 0 < z) : resT t ⟨bUnlink, i, j, z⟩ = (mv t i 1 : Nat) := by
  unfold resT; simp only [bUnlink_list]
  show (if z ≤ 0 then (-1 : Int) else ((mv t i 1 : Nat) : Int)) = _
  rw [if_neg (by omega)]
theorem st_unlink (t : List (List Nat)) (i j z : Nat) (hz : 0 < z) : stT t ⟨bUnlink, i, j, (z : Int)⟩ = unlink t i z := by
  unfold stT; simp only [bUnlink_list]
  show (if (z : Int) ≤ 0 then t else unlink t i (z : Int).toNat) = _
  rw [if_neg (by omega), Int.toNat_natCast]
theorem runR_two {N : Nat} {t : List (List Nat)} {p q : OpV} (hp : p.at' < N ∧ p.to < N) (hq : q.at' < N ∧ q.to < N) : runR N t [p, q] = ([resT t p, resT (stT t p) q], stT (stT t p) q) := by
  simp [runR, runS, hp, hq]

/-- Two lists, in a world behind w0. -/
def RunB (w0 : World) (l1 l2 : List Int) (e : Ending) (w' : World) : Prop :=
  ∃ a n c a' n' c', e = .returned (.tuple #[.slice a n c, .slice a' n' c']) ∧ Rd .i64 w' a n c l1 ∧ Rd .i64 w' a' n' c' l2 ∧ Below w0.heap.size w0 w'
theorem Szs.run {w : World} {a : Option Addr} {n c : Nat} {xs : List Int} (h : Szs w a n c xs) (oa : Option Addr) (on oc : Nat) (ps : List OpV) (hon : on ≤ 100000) (hok : OpsOk ps) (u : World) (hu : Below w.heap.size w u) (hp : RdO u oa on oc ps) :
    Calls Try.prog 12 #[.slice a n c, .slice oa on oc] u (RunB w (runR (tot xs) (mk xs) ps).1 (nats (nextsT (tot xs) (runR (tot xs) (mk xs) ps).2))) := by
  have hk := h.below hu (Nat.le_refl _)
  have := hk.n3
  have := hk.t21
  refine (run_calls u a n c xs oa on oc ps hk.rd hk.small.wf (by omega) (by omega) hp hon hok).mono ?_
  rintro e u' ⟨a, n, c, a', n', c', h1, h2, h3, h4⟩
  exact ⟨a, n, c, a', n', c', h1, h2, h3, hu.trans (h4.mono hu.size)⟩
theorem Szs.run2 {w : World} {a : Option Addr} {n c : Nat} {xs : List Int} (h : Szs w a n c xs) (oa : Option Addr) (on oc : Nat) (ps : List OpV) (hon : on ≤ 100000) (hok : OpsOk ps) (u : World) (hu : Below w.heap.size w u) (hp : RdO u oa on oc ps) :
    Calls Try.prog 12 #[.slice a n c, .slice oa on oc] u (RunOut2 u (runR (tot xs) (mk xs) ps).1 (nats (nextsT (tot xs) (runR (tot xs) (mk xs) ps).2))) := by
  have hk := h.below hu (Nat.le_refl _)
  have := hk.n3
  have := hk.t21
  exact run_calls2 u a n c xs oa on oc ps hk.rd hk.small.wf (by omega) (by omega) hp hon hok
theorem RdO.nil (w : World) : RdO w none 0 0 [] := ⟨rfl, Nat.le_refl _, by omega, fun i p h => by simp at h⟩
theorem rdo_two (w : World) (p q : OpV) : RdO (w.alloc (.cells #[.string p.kind, .int .u16 (p.at' : Int), .int .u16 (p.to : Int), .int .i64 p.n, .string q.kind, .int .u16 (q.at' : Int), .int .u16 (q.to : Int), .int .i64 q.n] 47)) (some ⟨w.heap.size, 0, none⟩) 2 2 [p, q] := by
  have hb := heap_alloc_new w (.cells #[.string p.kind, .int .u16 (p.at' : Int), .int .u16 (p.to : Int), .int .i64 p.n, .string q.kind, .int .u16 (q.at' : Int), .int .u16 (q.to : Int), .int .i64 q.n] 47)
  refine ⟨rfl, Nat.le_refl _, by omega, fun i o h => ?_⟩
  match i, h with
  | 0, h =>
    obtain rfl : p = o := by simpa using h
    exact ⟨_, 0, rfl, blk_lt hb, blk_cell (l := [_, _, _, _, _, _, _, _]) hb rfl, blk_cell (l := [_, _, _, _, _, _, _, _]) hb rfl, blk_cell (l := [_, _, _, _, _, _, _, _]) hb rfl, blk_cell (l := [_, _, _, _, _, _, _, _]) hb rfl⟩
  | 1, h =>
    obtain rfl : q = o := by simpa using h
    exact ⟨_, 0, rfl, blk_lt hb, blk_cell (l := [_, _, _, _, _, _, _, _]) hb rfl, blk_cell (l := [_, _, _, _, _, _, _, _]) hb rfl, blk_cell (l := [_, _, _, _, _, _, _, _]) hb rfl, blk_cell (l := [_, _, _, _, _, _, _, _]) hb rfl⟩
  | i + 2, h => simp at h

theorem Szs.nexts {w : World} {a : Option Addr} {n c : Nat} {xs : List Int} (h : Szs w a n c xs) (u : World) (hu : Below w.heap.size w u) :
    Calls Try.prog 19 #[.slice a n c] u (ListB w (nats (nextsT (tot xs) (mk xs)))) := by
  have hr := h.run none 0 0 [] (by omega) (fun p hp => by simp at hp) u hu (RdO.nil u)
  have e : runR (tot xs) (mk xs) [] = ([], mk xs) := rfl
  rw [e] at hr
  have hr' := Lib.hid hr
  clear hr e
  go_enter Try.func19, Try.ntmps19
  go_wp2_with fail
  refine hr'.out.mono ?_
  rintro e u' ⟨a1, n1, c1, a2, n2, c2, rfl, _, r2, b2⟩
  have r2' := Lib.hid r2
  clear r2
  go_wp2
  go_ret
  exact ⟨a2, n2, c2, rfl, r2'.out, b2⟩

end Go.Proofs.Ytmkkkhlalacaiaa

/- Rings in memory, and the methods of container/ring on them. -/
import Derived.Test.YtmkkkhlalacaiaaProg
import Derived.Test.YtmkkkhlalacaiaaOwn
import Derived.Test.YtmkkkhlalacaiaaRl
import Derived.LaidEql
namespace Go.Proofs.Ytmkkkhlalacaiaa
open Go.RowKit
open Go.Proofs.Ytmkkkhlalacaiaa.Rm
set_option linter.unusedVariables false

/-- A pointer to block b. -/
abbrev ptr (b : Nat) : Value := .pointer (some ⟨b, 0, none⟩)
/-- An element's cells: it is linked .. -/
def Live (w : World) (Bk : Nat → Nat) (nx pv : Nat → Nat) (val : Nat → Value) (i : Nat) : Prop :=
  w.heap[Bk i]? = some (.cells [ptr (Bk (nx i)), ptr (Bk (pv i)), val i].toArray 68 (0, 0))
/-- .. or it is a zero value, a ring by itself. -/
def Bare (w : World) (Bk : Nat → Nat) (nx pv : Nat → Nat) (val : Nat → Value) (i : Nat) : Prop :=
  nx i = i ∧ pv i = i ∧ w.heap[Bk i]? = some (.cells [.pointer none, .pointer none, val i].toArray 68 (0, 0))
/-- N elements, element i in block Bk i: next nx i, previous pv i. -/
structure Rg (w : World) (Bk : Nat → Nat) (N : Nat) (nx pv : Nat → Nat) (val : Nat → Value) : Prop where
  inv : Inv N nx pv
  inj : ∀ i j, i < N → j < N → Bk i = Bk j → i = j
  cell : ∀ i, i < N → Live w Bk nx pv val i ∨ Bare w Bk nx pv val i
/-- Only blocks of rings may have turned, and none is new. -/
structure RSame (Bk : Nat → Nat) (N : Nat) (w w' : World) : Prop where
  os : w'.os = w.os
  tape : w'.tape = w.tape
  output : w'.output = w.output
  size : w'.heap.size = w.heap.size
  block : ∀ k, (∀ i, i < N → k ≠ Bk i) → w'.heap[k]? = w.heap[k]?
theorem RSame.refl (Bk : Nat → Nat) (N : Nat) (w : World) : RSame Bk N w w := ⟨rfl, rfl, rfl, rfl, fun _ _ => rfl⟩
theorem RSame.trans {Bk : Nat → Nat} {N : Nat} {a b c : World} (h : RSame Bk N a b) (k : RSame Bk N b c) : RSame Bk N a c :=
  ⟨k.os.trans h.os, k.tape.trans h.tape, k.output.trans h.output, k.size.trans h.size, fun i hi => (k.block i hi).trans (h.block i hi)⟩
theorem RSame.set {Bk : Nat → Nat} {N : Nat} (w : World) {i : Nat} (hi : i < N) (o : Nat) (v : Value) : RSame Bk N w (w.setCell ⟨Bk i, o, none⟩ v) :=
  ⟨rfl, rfl, rfl, by simp [World.setCell], fun k hk => blk_other (hk i hi)⟩
theorem RSame.below {Bk : Nat → Nat} {N B : Nat} {w w' : World} (h : RSame Bk N w w') (hB : ∀ i, i < N → B ≤ Bk i) : Below B w w' :=
  ⟨h.os, h.tape, h.output, by rw [h.size]; exact Nat.le_refl _, fun k hk => h.block k (fun i hi e => by have := hB i hi; omega)⟩

theorem Rg.live_next {w : World} {Bk : Nat → Nat} {N : Nat} {nx pv : Nat → Nat} {val : Nat → Value} (h : Rg w Bk N nx pv val) {i : Nat} (hi : i < N) (hl : Live w Bk nx pv val i) : Live w Bk nx pv val (nx i) := by
  rcases h.cell (nx i) (h.inv.nlt i hi) with h1 | ⟨h1, h2, h3⟩
  · exact h1
  · have e : nx i = i := by have := h.inv.pn i hi; rw [h2] at this; exact this
    rw [e]; exact hl
theorem Rg.live_prev {w : World} {Bk : Nat → Nat} {N : Nat} {nx pv : Nat → Nat} {val : Nat → Value} (h : Rg w Bk N nx pv val) {i : Nat} (hi : i < N) (hl : Live w Bk nx pv val i) : Live w Bk nx pv val (pv i) := by
  rcases h.cell (pv i) (h.inv.plt i hi) with h1 | ⟨h1, h2, h3⟩
  · exact h1
  · have e : pv i = i := by have := h.inv.np i hi; rw [h1] at this; exact this
    rw [e]; exact hl
theorem Rg.live_it {w : World} {Bk : Nat → Nat} {N : Nat} {nx pv : Nat → Nat} {val : Nat → Value} (h : Rg w Bk N nx pv val) (k : Nat) {i : Nat} (hi : i < N) (hl : Live w Bk nx pv val i) : Live w Bk nx pv val (it nx k i) := by
  induction k generalizing i with
  | zero => exact hl
  | succ k ih => exact ih (h.inv.nlt i hi) (h.live_next hi hl)
theorem Rg.live_back {w : World} {Bk : Nat → Nat} {N : Nat} {nx pv : Nat → Nat} {val : Nat → Value} (h : Rg w Bk N nx pv val) (k : Nat) {i : Nat} (hi : i < N) (hl : Live w Bk nx pv val i) : Live w Bk nx pv val (it pv k i) := by
  induction k generalizing i with
  | zero => exact hl
  | succ k ih => exact ih (h.inv.plt i hi) (h.live_prev hi hl)
theorem Live.c0 {w : World} {Bk nx pv : Nat → Nat} {val : Nat → Value} {i : Nat} (h : Live w Bk nx pv val i) : w.cell? ⟨Bk i, 0, none⟩ = some (ptr (Bk (nx i))) := blk_cell h rfl
theorem Live.c1 {w : World} {Bk nx pv : Nat → Nat} {val : Nat → Value} {i : Nat} (h : Live w Bk nx pv val i) : w.cell? ⟨Bk i, 1, none⟩ = some (ptr (Bk (pv i))) := blk_cell h rfl
theorem Live.c2 {w : World} {Bk nx pv : Nat → Nat} {val : Nat → Value} {i : Nat} (h : Live w Bk nx pv val i) : w.cell? ⟨Bk i, 2, none⟩ = some (val i) := blk_cell h rfl
theorem Live.free {w : World} {Bk nx pv : Nat → Nat} {val : Nat → Value} {i : Nat} (h : Live w Bk nx pv val i) (o : Nat) : w.frozen? ⟨Bk i, o, none⟩ = false := blk_free h
theorem Rg.value {w : World} {Bk : Nat → Nat} {N : Nat} {nx pv : Nat → Nat} {val : Nat → Value} (h : Rg w Bk N nx pv val) {i : Nat} (hi : i < N) : w.cell? ⟨Bk i, 2, none⟩ = some (val i) := by
  rcases h.cell i hi with h1 | ⟨_, _, h1⟩
  · exact h1.c2
  · exact blk_cell h1 rfl
theorem Rg.lt {w : World} {Bk : Nat → Nat} {N : Nat} {nx pv : Nat → Nat} {val : Nat → Value} (h : Rg w Bk N nx pv val) {i : Nat} (hi : i < N) : Bk i < w.heap.size := by
  rcases h.cell i hi with h1 | ⟨_, _, h1⟩
  · exact blk_lt h1
  · exact blk_lt h1
/-- Rings stay while other blocks turn. -/
theorem Rg.keep {w w' : World} {Bk : Nat → Nat} {N : Nat} {nx pv : Nat → Nat} {val : Nat → Value} (h : Rg w Bk N nx pv val) (hk : ∀ i, i < N → w'.heap[Bk i]? = w.heap[Bk i]?) : Rg w' Bk N nx pv val :=
  ⟨h.inv, h.inj, fun i hi => (h.cell i hi).imp (fun h1 => (hk i hi).trans h1) (fun ⟨a, b, c⟩ => ⟨a, b, (hk i hi).trans c⟩)⟩

/-- Pointers to two elements, compared. -/
theorem run_ptr_eq (w : World) {b c : Nat} {cb cc : Array Value} {tb tc : TypeId} (hb : w.heap[b]? = some (.cells cb tb (0, 0))) (hc : w.heap[c]? = some (.cells cc tc (0, 0))) :
    (binOp .eql 54 (ptr b) (ptr c)).run Try.prog w = .ok (.bool (decide (b = c))) w ∧ (binOp .neq 54 (ptr b) (ptr c)).run Try.prog w = .ok (.bool (!decide (b = c))) w := by
  have hs : (Try.prog.info? 68).map (fun i => decide (i.size = 0)) = some false := by kernel_rfl
  obtain ⟨i, hi, hz⟩ : ∃ i, Try.prog.info? 68 = some i ∧ i.size ≠ 0 := by
    cases hq : Try.prog.info? 68 with
    | none => rw [hq] at hs; cases hs
    | some i =>
      rw [hq] at hs
      simp only [Option.map_some, Option.some.injEq, decide_eq_false_iff_not] at hs
      exact ⟨i, rfl, hs⟩
  have h : ∀ d : Nat, (Op.equalIn (d + 1) 54 (ptr b) (ptr c)).run Try.prog w = .ok (decide (b = c)) w := fun d => by
    have e : (sameAddr ⟨b, 0, none⟩ ⟨c, 0, none⟩).run Try.prog w = .ok (decide (b = c)) w := by
      by_cases hbc : b = c
      · subst hbc
        rw [run_sameAddr_same]
        simp
      · rw [run_sameAddr_other (w := w) (by intro e; exact hbc (congrArg Addr.block e)) hb hc]
        simp [hbc]
    simp [Op.equalIn, run_underlying Try.underlying54, sizeOf, typeInfo, hi, hz, e]
  constructor
  · simp only [binOp]
    simp [Op.equal, Op.maxDepth, h 9999]
  · simp only [binOp]
    simp [Op.equal, Op.maxDepth, h 9999]
theorem Rg.blk {w : World} {Bk : Nat → Nat} {N : Nat} {nx pv : Nat → Nat} {val : Nat → Value} (h : Rg w Bk N nx pv val) {i : Nat} (hi : i < N) : ∃ cs, w.heap[Bk i]? = some (.cells cs 68 (0, 0)) := by
  rcases h.cell i hi with h1 | ⟨_, _, h1⟩
  · exact ⟨_, h1⟩
  · exact ⟨_, h1⟩
theorem Rg.ptr_eq {w : World} {Bk : Nat → Nat} {N : Nat} {nx pv : Nat → Nat} {val : Nat → Value} (h : Rg w Bk N nx pv val) {i j : Nat} (hi : i < N) (hj : j < N) :
    (binOp .eql 54 (ptr (Bk i)) (ptr (Bk j))).run Try.prog w = .ok (.bool (decide (i = j))) w ∧ (binOp .neq 54 (ptr (Bk i)) (ptr (Bk j))).run Try.prog w = .ok (.bool (!decide (i = j))) w := by
  obtain ⟨_, h1⟩ := h.blk hi
  obtain ⟨_, h2⟩ := h.blk hj
  have := run_ptr_eq w h1 h2
  have e : decide (Bk i = Bk j) = decide (i = j) := by
    by_cases q : i = j
    · simp [q]
    · have : Bk i ≠ Bk j := fun e => q (h.inj i j hi hj e)
      simp [q, this]
  rwa [e] at this

/-- init, of a zero value. -/
theorem Rg.init {w : World} {Bk : Nat → Nat} {N : Nat} {nx pv : Nat → Nat} {val : Nat → Value} (h : Rg w Bk N nx pv val) {i : Nat} (hi : i < N) (hb : Bare w Bk nx pv val i) :
    Rg ((w.setCell ⟨Bk i, 0, none⟩ (ptr (Bk i))).setCell ⟨Bk i, 1, none⟩ (ptr (Bk i))) Bk N nx pv val ∧ Live ((w.setCell ⟨Bk i, 0, none⟩ (ptr (Bk i))).setCell ⟨Bk i, 1, none⟩ (ptr (Bk i))) Bk nx pv val i := by
  obtain ⟨h1, h2, h3⟩ := hb
  have hl : Live ((w.setCell ⟨Bk i, 0, none⟩ (ptr (Bk i))).setCell ⟨Bk i, 1, none⟩ (ptr (Bk i))) Bk nx pv val i := by
    unfold Live
    rw [h1, h2]
    exact blk_set (l := [ptr (Bk i), .pointer none, val i]) (blk_set (l := [.pointer none, .pointer none, val i]) h3)
  refine ⟨⟨h.inv, h.inj, fun j hj => ?_⟩, hl⟩
  by_cases e : j = i
  · subst e; exact .inl hl
  · have hne : Bk j ≠ Bk i := fun q => e (h.inj j i hj hi q)
    refine (h.cell j hj).imp (fun q => ?_) (fun ⟨a, b, q⟩ => ⟨a, b, ?_⟩)
    · unfold Live; rw [blk_other hne, blk_other hne]; exact q
    · rw [blk_other hne, blk_other hne]; exact q

/-- What Next and Prev come to. -/
def NextPost (w : World) (Bk : Nat → Nat) (N : Nat) (nx pv : Nat → Nat) (val : Nat → Value) (i j : Nat) (e : Ending) (w' : World) : Prop :=
  e = .returned (ptr (Bk j)) ∧ Rg w' Bk N nx pv val ∧ Live w' Bk nx pv val i ∧ RSame Bk N w w'

theorem init_calls (w : World) (Bk : Nat → Nat) (N : Nat) (nx pv : Nat → Nat) (val : Nat → Value) (i : Nat) (h : Rg w Bk N nx pv val) (hi : i < N) (hb : Bare w Bk nx pv val i) :
    Calls Try.prog 38 #[ptr (Bk i)] w (NextPost w Bk N nx pv val i i) := by
  have hI := Lib.hid (h.init hi hb)
  have hS := Lib.hid ((RSame.set (Bk := Bk) w hi 0 (ptr (Bk i))).trans (RSame.set (Bk := Bk) _ hi 1 (ptr (Bk i))))
  have c0 : w.cell? ⟨Bk i, 0, none⟩ = some (.pointer none) := blk_cell hb.2.2 rfl
  have c1 : w.cell? ⟨Bk i, 1, none⟩ = some (.pointer none) := blk_cell hb.2.2 rfl
  have f0 : w.frozen? ⟨Bk i, 0, none⟩ = false := blk_free hb.2.2
  have f1 : (w.setCell ⟨Bk i, 0, none⟩ (ptr (Bk i))).frozen? ⟨Bk i, 1, none⟩ = false := blk_free (blk_set hb.2.2)
  clear hb
  go_enter Try.func38, Try.ntmps38
  go_wp2
  go_ret
  exact ⟨rfl, hI.out.1, hI.out.2, hS.out⟩

theorem next_calls (w : World) (Bk : Nat → Nat) (N : Nat) (nx pv : Nat → Nat) (val : Nat → Value) (i : Nat) (h : Rg w Bk N nx pv val) (hi : i < N) :
    Calls Try.prog 24 #[ptr (Bk i)] w (NextPost w Bk N nx pv val i (nx i)) := by
  rcases h.cell i hi with hl | hb
  · have c0 := hl.c0
    have hl' := Lib.hid hl
    clear hl
    go_enter Try.func24, Try.ntmps24
    go_wp2
    go_ret
    exact ⟨rfl, h, hl'.out, RSame.refl _ _ _⟩
  · have c0 : w.cell? ⟨Bk i, 0, none⟩ = some (.pointer none) := blk_cell hb.2.2 rfl
    have hb' := Lib.hid hb
    clear hb
    go_enter Try.func24, Try.ntmps24
    go_wp2_with fail
    refine (init_calls w Bk N nx pv val i h hi hb'.out).mono ?_
    rintro e w1 ⟨rfl, h1, h2, h3⟩
    clear c0
    go_wp2
    go_ret
    exact ⟨by rw [hb'.out.1]; rfl, h1, h2, h3⟩

theorem prev_calls (w : World) (Bk : Nat → Nat) (N : Nat) (nx pv : Nat → Nat) (val : Nat → Value) (i : Nat) (h : Rg w Bk N nx pv val) (hi : i < N) :
    Calls Try.prog 33 #[ptr (Bk i)] w (NextPost w Bk N nx pv val i (pv i)) := by
  rcases h.cell i hi with hl | hb
  · have c0 := hl.c0
    have c1 := hl.c1
    have hl' := Lib.hid hl
    clear hl
    go_enter Try.func33, Try.ntmps33
    go_wp2
    go_ret
    exact ⟨rfl, h, hl'.out, RSame.refl _ _ _⟩
  · have c0 : w.cell? ⟨Bk i, 0, none⟩ = some (.pointer none) := blk_cell hb.2.2 rfl
    have hb' := Lib.hid hb
    clear hb
    go_enter Try.func33, Try.ntmps33
    go_wp2_with fail
    refine (init_calls w Bk N nx pv val i h hi hb'.out).mono ?_
    rintro e w1 ⟨rfl, h1, h2, h3⟩
    clear c0
    go_wp2
    go_ret
    exact ⟨by rw [hb'.out.2.1]; rfl, h1, h2, h3⟩

end Go.Proofs.Ytmkkkhlalacaiaa

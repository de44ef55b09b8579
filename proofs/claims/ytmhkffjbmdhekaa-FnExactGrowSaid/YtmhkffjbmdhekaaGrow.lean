/- slices.Grow and impl.grown. -/
import Derived.Test.YtmhkffjbmdhekaaClip
import Derived.Test.YtmhkffjbmdhekaaNums
import Derived.Defers
import Derived.Recover
namespace Go.Proofs.Ytmhkffjbmdhekaa
open Go.RowKit
set_option linter.unusedVariables false

theorem growBy_le (need : Nat) : ∀ (r c : Nat), c ≤ need + need / 4 + 512 → Builtin.growBy need r c ≤ need + need / 4 + 512
  | 0, c, h => h
  | r + 1, c, h => by
    unfold Builtin.growBy
    split
    · exact h
    · exact growBy_le need r _ (by omega)
theorem nextslicecap_le (need old : Nat) (h : old < need) : Builtin.nextslicecap need old ≤ need + need / 4 + 512 := by
  unfold Builtin.nextslicecap
  split
  · omega
  · split
    · omega
    · exact growBy_le need 4 old (by omega)

/-- append(s, make([]int, d)...), where s is full: a new row. -/
theorem run_append_zeros (w : World) (ty : TypeId) (a : Option Addr) (c d : Nat) (cells : List Value) (hd : 0 < d) (hb : (c + d) * 8 ≤ 200000000000000) (hl : cells.length = c) (hn : a = none → c = 0)
    (hc : ∀ ad, a = some ad → ∀ j u, cells[j]? = some u → w.cell? (ad.add j) = some u) :
    ∃ cap tail, (Builtin.append_ #[22, 3] ty #[.slice a c c, .int .i64 (d : Int)]).run Try.prog w =
      .ok (.slice (some ⟨w.heap.size, 0, none⟩) (c + d) cap) (w.drew.alloc (.cells (cells ++ tail).toArray 3)) ∧ c + d ≤ cap ∧ cap ≤ maxLen := by
  obtain ⟨i0, hi, hz0, hz1, hz2⟩ := info_parts infoInt
  have hint : Try.prog.underlying 3 = some (.int .i64) := Try.underlying3
  have wl : IntKind.i64.wrap (d : Int) = d := by rw [IntKind.wrap_i64]; omega
  have n1 : ¬ (d : Int) < 0 := by omega
  have n2 : ¬ (281474976710656 < (d : Int) * 8) := by omega
  have n3 : ¬ c + d ≤ c := by omega
  have n4 : ¬ ((c : Int) + (d : Int) > IntKind.i64.max) := by
    have : IntKind.i64.max = 9223372036854775807 := by decide
    omega
  have n5 : ¬ (281474976710656 < Builtin.nextslicecap (c + d) c * 8) := by
    have := nextslicecap_le (c + d) c (by omega)
    omega
  have hf : (Builtin.firstCells 1 c (.slice a c c)).run Try.prog w.drew = .ok cells.toArray w.drew := by
    cases a with
    | none =>
      obtain rfl : cells = [] := List.eq_nil_of_length_eq_zero (by rw [hl]; exact hn rfl)
      simp [Builtin.firstCells]
    | some ad =>
      have := run_firstCells_some (P := Try.prog) w.drew 1 c ad c c cells (by simpa using hl) (fun j u hj => hc ad rfl j u hj)
      simpa using this
  have hge := grownCap_ge w (c + d) c 3
  have hle := grownCap_le_maxLen w (c + d) c 3 (by unfold maxLen; omega)
  have hb2 : ¬ (281474976710656 < (d : Int) * (i0.bytes : Int)) := by rw [hz2]; omega
  have n4' : ¬ (9223372036854775807 < (c : Int) + (d : Int)) := by omega
  have n5' : ¬ (281474976710656 < Builtin.nextslicecap (c + d) c * i0.bytes) := by rw [hz2]; exact n5
  have n6 : ¬ d = 0 := by omega
  refine ⟨grownCap w (c + d) c 3, (Builtin.zeroCells #[.int .i64 0] d).toList ++ (Builtin.zeroCells #[.int .i64 0] (grownCap w (c + d) c 3 - (c + d))).toList, ?_, hge, hle⟩
  simp [Builtin.append_, run_underlying Try.underlying22, run_underlying hint, sizeOf, typeInfo, zeroValue, hi, hz0, hz1, asInt, asIntOf, wl, n1, hb2, n3, n4', n5', n6, Question.forced, hf, newRow, grownCap, Value.cells]
  congr 2
  apply Array.ext'
  simp

theorem wpl_run {P : Program} {w w' : World} {ops : Array Oper} {rest : List Oper} {o : Oper} {a : Act} {Q : Exit → Act → World → Prop} (hgd : o.guard = none) (s x : Operand) (T U : TypeId)
    (ho : o.op = .call { callee := .builtin .append, args := #[s, x], argTypes := #[T, U] }) {v u r : Value} (hs : a.eval s = v) (hx : a.eval x = u)
    (hr : (Builtin.append_ #[T, U] o.type #[v, u]).run P w = .ok r w') (h : wpList P ops Q rest (a.put o.dst r) w') : wpList P ops Q (o :: rest) a w := by
  refine wpList_plain hgd fun K hK => ?_
  unfold Oper.wp execOp
  simp only [ho, resolve, invoke, builtin, Sem.run_bind, Sem.run_pure, Result.andThen_ok, List.map_toArray, List.map_cons, List.map_nil, hs, hx, hr]
  exact hK _ _ h

/-- What is told of the slice that is grown: all cells of its array. -/
def Full (w : World) (a : Option Addr) (n c : Nat) (xs : List Int) : Prop :=
  ∃ cells : List Value, cells.length = c ∧ (a = none → c = 0) ∧ cells.take n = xs.map (Value.int .i64) ∧ ∀ ad, a = some ad → ∀ j u, cells[j]? = some u → w.cell? (ad.add j) = some u

/-- What slices.Grow comes to, for d that is not negative. -/
def GrowPost (w : World) (a : Option Addr) (n c d : Nat) (xs : List Int) (v : Value) (w' : World) : Prop :=
  ∃ a' c', v = .slice a' n c' ∧ Rd .i64 w' a' n c' xs ∧ d + n ≤ c' ∧ c' ≤ 9223372036854775807 ∧ (d + n ≤ c → c' = c ∧ a' = a) ∧ (a' = a ∨ ∀ ad, a' = some ad → w.heap.size ≤ ad.block) ∧ Below w.heap.size w w'

theorem lgrow_neg (a : Option Addr) (n c : Nat) (d : Int) (w : World) (h : d < 0) :
    Calls Try.prog 30 #[.slice a n c, .int .i64 d] w fun e w' => ∃ pv, e = .panicked [{ v := .iface 9 pv, recovered := false }] ∧ w = w' := by
  go_enter Try.func30, Try.ntmps30
  go_wp2
  exact ⟨rfl, _, rfl, rfl⟩

set_option maxHeartbeats 400000 in
theorem lgrow_calls (a : Option Addr) (n c d : Nat) (xs : List Int) (w : World) (h : Rd .i64 w a n c xs) (hf : Full w a n c xs) (hc : c * 8 ≤ 140737489000000) (hd : d ≤ 1048576) :
    Calls Try.prog 30 #[.slice a n c, .int .i64 (d : Int)] w fun e w' => ∃ v, e = .returned v ∧ GrowPost w a n c d xs v w' := by
  have l := h.le
  by_cases hd0 : d + n ≤ c
  · go_enter Try.func30, Try.ntmps30
    go_wp2
    go_ret
    exact ⟨_, rfl, a, c, rfl, h, by omega, by omega, fun _ => ⟨rfl, rfl⟩, .inl rfl, Below.refl _ _⟩
  · obtain ⟨cells, hl, hn, ht, hcell⟩ := hf
    obtain ⟨cap, tail, hr, h1, h2⟩ := run_append_zeros w 22 a c (d - (c - n)) cells (by omega) (by omega) hl hn hcell
    have e1 : ((d - (c - n) : Nat) : Int) = (d : Int) - ((c : Int) - (n : Int)) := by omega
    rw [e1] at hr
    have hs1 := fun u => run_cut_high (P := Try.prog) u 22 3 a n c c .i64 Try.underlying22 sizeInt (c : Int) rfl (Nat.le_refl _)
    have hs2 := fun u => run_cut_high (P := Try.prog) u 22 3 (some ⟨w.heap.size, 0, none⟩) (c + (d - (c - n))) cap n .i64 Try.underlying22 sizeInt (n : Int) rfl (by omega)
    have hxl := Lib.hid h.len
    have hr' := Lib.hid hr
    clear hcell e1 hr
    go_enter Try.func30, Try.ntmps30
    go_wp2_with (first
      | (at_builtin; refine wpl_run rfl (.tmp 20) (.tmp 21) 22 3 rfl rfl rfl hr'.out ?_))
    go_ret
    refine ⟨_, rfl, some ⟨w.heap.size, 0, none⟩, cap, rfl, ?_, by omega, h2, fun hh => absurd hh hd0, .inr (fun ad e => by cases e; exact Nat.le_refl _), ((Below.refl _ _).drew).alloc (Nat.le_refl _) _⟩
    refine Rd.blk (l := cells ++ tail) (heap_alloc_new w.drew _) hxl.out (by omega) h2 fun i hi => ?_
    rw [Nat.zero_add, List.getElem?_append_left (by omega)]
    have e2 : cells[i]? = (cells.take n)[i]? := by rw [List.getElem?_take, if_pos hi]
    rw [e2, ht]
    exact getD_map_int .i64 xs i (by rw [hxl.out]; exact hi)

/- The deferred function of impl.grown. -/
theorem catch_panicking (p : Addr) (x : Bool) (u : TypeId) (pv : Value) (older : List PanicEntry) (w : World) (hc : w.cell? p = some (.bool x)) (hz : w.frozen? p = false) :
    CallsD Try.prog 29 #[.pointer (some p)] (.panicking ({ v := .iface u pv, recovered := false } :: older)) w fun e u' w' =>
      e = .returned (.tuple #[]) ∧ u' = .panicking ({ v := .iface u pv, recovered := true } :: older) ∧ w' = w.setCell p (.bool false) := by
  refine callsD_of_wpS Try.func29 rfl fun c₀ cs hu => ?_
  apply wpS_seq
  apply wpS_region
  simp [wpOpsS, go_sem, recoverD, hu, Try.ntmps29, Exit.thenS]
  refine wpS_cond (t := true) (by simp [Act.eval, Array.replicate]) ?_
  simp only [if_true]
  apply wpS_region
  simp [wpOpsS, go_sem, hc, hz, bodyPostS, results, Try.results29]

theorem catch_idle (p : Addr) (w : World) :
    CallsD Try.prog 29 #[.pointer (some p)] .returning w fun e u' w' => e = .returned (.tuple #[]) ∧ u' = .returning ∧ w' = w := by
  refine callsD_of_wpS Try.func29 rfl fun c₀ cs hu => ?_
  apply wpS_seq
  apply wpS_region
  simp [wpOpsS, go_sem, recoverD, hu, Try.ntmps29, Exit.thenS]
  refine wpS_cond (t := false) (by simp [Act.eval, Array.replicate]) ?_
  simp only [Bool.false_eq_true, if_false]
  refine wpS_of_wp (wp_skip ?_)
  cases c₀
  simp_all [bodyPostS, results, Try.results29]

theorem grown_neg (a : Option Addr) (n c : Nat) (d : Int) (w : World) (h : d < 0) :
    Calls Try.prog 26 #[.slice a n c, .int .i64 d] w fun e w' => e = .returned (.tuple #[.slice none 0 0, .bool false]) ∧ Below w.heap.size w w' := by
  have hmf : ∀ (fn : Fn) (first cap : Array Value) (w : World), (Instr.makeFunc fn first cap).run Try.prog w = .ok (.func fn first cap) w := fun _ _ _ _ => rfl
  go_enter_defers Try.func26, Try.ntmps26
  go_wp2_with fail
  refine (lgrow_neg a n c d _ h).mono ?_
  rintro e w1 ⟨pv, rfl, rfl⟩
  go_wp2
  refine leaves_cons (f := 29) (args := #[.pointer (some ⟨w.heap.size, 0, none⟩)]) (by simp) (by simp [go_sem]) ?_
  refine (catch_panicking ⟨w.heap.size, 0, none⟩ false 9 _ [] _ ?_ ?_).mono ?_
  · simp [go_sem]
  · simp [go_sem]
  rintro e u' w'' ⟨rfl, rfl, rfl⟩
  simp [Leaves, settle, results, Try.results26, go_sem]
  exact (Below.refl _ _).alloc (Nat.le_refl _) _

theorem Full.below {w w' : World} {a : Option Addr} {n c : Nat} {xs : List Int} (h : Full w a n c xs) (hb : Below w.heap.size w w') (hlt : ∀ ad, a = some ad → ad.block < w.heap.size ∧ ad.spot = none) : Full w' a n c xs := by
  obtain ⟨cells, h1, h2, h3, h4⟩ := h
  refine ⟨cells, h1, h2, h3, fun ad e j u hj => ?_⟩
  obtain ⟨hl, hs⟩ := hlt ad e
  obtain ⟨b, o, sp⟩ := ad
  simp only at hs hl
  subst hs
  rw [Addr.add_lit, hb.cell (p := ⟨b, o + j, none⟩) hl, ← Addr.add_lit]
  exact h4 _ e j u hj

theorem grown_calls (a : Option Addr) (n c d : Nat) (xs : List Int) (w : World) (h : Rd .i64 w a n c xs) (hf : Full w a n c xs) (hlt : ∀ ad, a = some ad → ad.block < w.heap.size ∧ ad.spot = none) (hc : c * 8 ≤ 140737489000000) (hd : d ≤ 1048576) :
    Calls Try.prog 26 #[.slice a n c, .int .i64 (d : Int)] w fun e w' => ∃ v, e = .returned (.tuple #[v, .bool true]) ∧ GrowPost w a n c d xs v w' := by
  have hmf : ∀ (fn : Fn) (first cap : Array Value) (w : World), (Instr.makeFunc fn first cap).run Try.prog w = .ok (.func fn first cap) w := fun _ _ _ _ => rfl
  have hb0 : Below w.heap.size w (w.alloc (.cells #[.bool false] 4)) := (Below.refl _ _).alloc (Nat.le_refl _) _
  have h' := Lib.hid (h.below hb0 (Nat.le_refl _))
  have hf' := Lib.hid (hf.below hb0 hlt)
  have hlt' := Lib.hid hlt
  clear hlt h hf
  go_enter_defers Try.func26, Try.ntmps26
  go_wp2_with fail
  refine (lgrow_calls a n c d xs _ h'.out hf'.out hc hd).mono ?_
  rintro e w1 ⟨v, rfl, a', c', rfl, g1, g2, g3, g4, g6, g5⟩
  have hx : w1.heap[w.heap.size]? = some (.cells [Value.bool false].toArray 4 (0, 0)) := (g5.block w.heap.size (by simp)).trans (heap_alloc_new w _)
  have hc1 : w1.cell? ⟨w.heap.size, 0, none⟩ = some (.bool false) := blk_cell hx rfl
  have hf1 : w1.frozen? ⟨w.heap.size, 0, none⟩ = false := blk_free hx
  have hb1 := hb0.trans (g5.mono (by simp))
  have hx1 := Lib.hid hx
  have g1' := Lib.hid g1
  have g4' := Lib.hid g4
  have g6' : Hid (∀ ad, a' = some ad → ad.block ≠ w.heap.size) := by
    intro ad e
    rcases g6 with g6 | g6
    · have := (hlt'.out ad (g6 ▸ e)).1; omega
    · have := g6 ad e; simp at this; omega
  have g7 := Lib.hid g6
  clear hx g1 g4 g5 h' hf' g6
  go_wp2
  refine leaves_cons (f := 29) (args := #[.pointer (some ⟨w.heap.size, 0, none⟩)]) (by simp) (by simp [go_sem]) ?_
  refine (catch_idle ⟨w.heap.size, 0, none⟩ _).mono ?_
  rintro e u' w'' ⟨rfl, rfl, rfl⟩
  have hcell2 : (w1.setCell ⟨w.heap.size, 0, none⟩ (.bool true)).cell? ⟨w.heap.size, 0, none⟩ = some (.bool true) := blk_cell (l := [.bool true]) (blk_set (l := [_]) hx1.out) rfl
  simp [Leaves, settle, results, Try.results26, go_sem, hcell2]
  refine ⟨a', c', rfl, g1'.out.save (Save.of_sole (Sole.set w.heap.size 0 w1 _)) g6'.out, g2, g3, g4'.out, ?_, below_set hb1 (Nat.le_refl _)⟩
  rcases g7.out with e | e
  · exact .inl e
  · exact .inr fun ad h => by have := e ad h; simp at this; omega

/-- What impl.Grow comes to, for d that is not negative. -/
def GrewPost (w : World) (a : Option Addr) (n room d : Nat) (xs : List Int) (e : Ending) (w' : World) : Prop :=
  ∃ a' c', e = .returned (.tuple #[.slice a' n c', .int .i64 (room : Int), .int .i64 ((c' : Int) - (n : Int)), .bool a'.isNone, .bool true]) ∧ Rd .i64 w' a' n c' xs ∧ d + n ≤ c' ∧ c' ≤ 9223372036854775807 ∧
    (d ≤ room → c' = n + room ∧ (a'.isNone = true ↔ a.isNone = true ∧ room = 0)) ∧ Below w.heap.size w w'

theorem full_spare {w : World} {g room : Nat} {xs : List Int} (h : w.heap[g]? = some (.cells (spareCells xs room).toArray 3 (0, 0))) : Full w (some ⟨g, 0, none⟩) xs.length (xs.length + room) xs := by
  refine ⟨spareCells xs room, by simp [spareCells], (fun e => by cases e), by simp [spareCells], ?_⟩
  intro ad e j u hj
  cases e
  rw [Addr.add_lit, Nat.zero_add]
  exact blk_cell h hj

set_option maxHeartbeats 400000 in
theorem grow_neg (a : Option Addr) (n c room : Nat) (d : Int) (xs : List Int) (w : World) (h : Rd .i64 w a n c xs) (hc : c * 8 ≤ 140737488351232) (hr : room ≤ 65535) (hd : d < 0) :
    Calls Try.prog 17 #[.slice a n c, .int .u16 (room : Int), .int .i64 d] w fun e w' =>
      e = .returned (.tuple #[.slice none 0 0, .int .i64 0, .int .i64 0, .bool false, .bool false]) ∧ Below w.heap.size w w' := by
  have l := h.le
  by_cases hz : a.isNone = true ∧ room = 0
  · obtain ⟨ha, rfl⟩ := hz
    obtain rfl : a = none := by simpa using ha
    obtain ⟨rfl, rfl⟩ := h.2.2.2.1 rfl
    go_enter Try.func17, Try.ntmps17
    go_wp2_with fail
    refine (spare_nil _).mono ?_
    rintro e w1 ⟨rfl, rfl⟩
    go_wp2_with fail
    refine (grown_neg _ _ _ d _ hd).mono ?_
    rintro e w2 ⟨rfl, hb⟩
    go_wp2
    exact bodyPost_ret (v := .tuple #[.slice none 0 0, .int .i64 0, .int .i64 0, .bool false, .bool false]) (by simp [results, Try.results17, go_sem]) rfl ⟨rfl, hb⟩
  · go_enter Try.func17, Try.ntmps17
    go_wp2_with fail
    refine (spare_calls a n c room xs w h hc hr (fun e => by by_cases hm : room = 0; exact absurd ⟨e, hm⟩ hz; omega)).mono ?_
    rintro e w1 ⟨rfl, hg, hb⟩
    clear hg
    go_wp2_with fail
    refine (grown_neg _ _ _ d _ hd).mono ?_
    rintro e w2 ⟨rfl, hb2⟩
    have hb3 := hb.trans (hb2.mono hb.size)
    go_wp2
    exact bodyPost_ret (v := .tuple #[.slice none 0 0, .int .i64 0, .int .i64 0, .bool false, .bool false]) (by simp [results, Try.results17, go_sem]) rfl ⟨rfl, hb3⟩

set_option maxHeartbeats 400000 in
theorem grow_calls (a : Option Addr) (n c room d : Nat) (xs : List Int) (w : World) (h : Rd .i64 w a n c xs) (hc : c * 8 ≤ 140737488351232) (hr : room ≤ 65535) (hd : d ≤ 1048576) :
    Calls Try.prog 17 #[.slice a n c, .int .u16 (room : Int), .int .i64 (d : Int)] w (GrewPost w a n room d xs) := by
  have l := h.le
  have hxl := h.len
  have hq := fun (u : World) (a : Option Addr) (n c : Nat) => Lib.run_eql_slice_nil (P := Try.prog) u 22 3 a n c 0 0 Try.underlying22
  by_cases hz : a.isNone = true ∧ room = 0
  · obtain ⟨ha, rfl⟩ := hz
    obtain rfl : a = none := by simpa using ha
    obtain ⟨rfl, rfl⟩ := h.2.2.2.1 rfl
    obtain rfl : xs = [] := List.eq_nil_of_length_eq_zero hxl
    have hF : Full w none 0 0 [] := ⟨[], rfl, fun _ => rfl, rfl, fun ad e => by cases e⟩
    clear hxl
    go_enter Try.func17, Try.ntmps17
    go_wp2_with fail
    refine (spare_nil _).mono ?_
    rintro e w1 ⟨rfl, rfl⟩
    go_wp2_with fail
    refine (grown_calls none 0 0 d [] _ (Rd.nil _ _) hF (fun ad e => by cases e) (by omega) hd).mono ?_
    rintro e w2 ⟨v, rfl, a', c', rfl, g1, g2, g3, g4, g6, g5⟩
    have g1' := Lib.hid g1
    have g4' := Lib.hid g4
    clear g1 g4 g6 hF
    go_wp2
    refine bodyPost_ret (v := .tuple #[.slice a' 0 c', .int .i64 0, .int .i64 ((c' : Int) - (0 : Nat)), .bool a'.isNone, .bool true]) (by simp [results, Try.results17, go_sem]) rfl ⟨a', c', rfl, g1'.out, g2, g3, ?_, g5⟩
    intro hd0
    obtain ⟨e1, e2⟩ := g4'.out (by omega)
    exact ⟨by omega, by rw [e2]; simp⟩
  · have hne : a.isNone = true → 0 < room := fun e => by by_cases hm : room = 0; exact absurd ⟨e, hm⟩ hz; omega
    go_enter Try.func17, Try.ntmps17
    go_wp2_with fail
    refine (spare_calls a n c room xs w h hc hr hne).mono ?_
    rintro e w1 ⟨rfl, hg, hb⟩
    have hF := Lib.hid (full_spare hg)
    have hR := Lib.hid (spare_rd (room := room) hg hxl (Nat.le_add_right n room) (by omega))
    have hlt1 := blk_lt hg
    have hxl' := Lib.hid hxl
    clear hg hxl
    go_wp2_with fail
    refine (grown_calls (some ⟨w.heap.size, 0, none⟩) n (n + room) d xs _ hR.out (by have := hF.out; rwa [hxl'.out] at this) (fun ad e => by cases e; exact ⟨hlt1, rfl⟩) (by omega) hd).mono ?_
    rintro e w2 ⟨v, rfl, a', c', rfl, g1, g2, g3, g4, g6, g5⟩
    have hb3 := hb.trans (g5.mono hb.size)
    have g1' := Lib.hid g1
    have g4' := Lib.hid g4
    clear g1 g4 g6 hF hR g5
    go_wp2
    refine bodyPost_ret (v := .tuple #[.slice a' n c', .int .i64 (room : Int), .int .i64 ((c' : Int) - (n : Int)), .bool a'.isNone, .bool true]) (by simp [results, Try.results17, go_sem]; omega) rfl ⟨a', c', rfl, g1'.out, g2, g3, ?_, hb3⟩
    intro hd0
    obtain ⟨e1, e2⟩ := g4'.out (by omega)
    refine ⟨e1, ?_⟩
    rw [e2]
    simp
    intro e
    have := hne (by rw [e]; rfl)
    omega

end Go.Proofs.Ytmhkffjbmdhekaa

/- impl.spare returns a copy of a slice in a block of its own, with so much room, in which 7 stands; nil for nil and no room. -/
import Derived.Test.YtgmnonijhgipbaaProg
import Derived.Test.YtgmnonijhgipbaaBase
import Derived.Laws.CopyOwn
namespace Go.Proofs.Ytgmnonijhgipbaa
open Go.RowKit
set_option linter.unusedVariables false

theorem infoInt : (Try.prog.info? 3).map (fun i => (i.zero, i.size, i.bytes)) = some (some (.int .i64 0), 1, 8) := by kernel_rfl
theorem sizeInt : (Try.prog.info? 3).map (·.size) = some 1 := by kernel_rfl

theorem spare_nil (w : World) :
    Calls Try.prog 26 #[.slice none 0 0, .int .u16 0] w fun e w' => e = .returned (.slice none 0 0) ∧ w = w' := by
  have hq := fun w => Lib.run_eql_slice_nil (P := Try.prog) w 22 3 none 0 0 0 0 Try.underlying22
  go_enter Try.func26, Try.ntmps26
  go_wp2
  go_ret
  exact ⟨rfl, rfl⟩

/-- What the fresh block holds. -/
def spareCells (xs : List Int) (room : Nat) : List Value := xs.map (Value.int .i64) ++ List.replicate room (.int .i64 7)

theorem getD_map_int (k : IntKind) (xs : List Int) (i : Nat) (h : i < xs.length) : (xs.map (Value.int k))[i]? = some (.int k (xs.getD i 0)) := by
  simp [List.getD_eq_getElem?_getD, h]
theorem Rd.news {k : IntKind} {w : World} {a : Option Addr} {n c : Nat} {xs : List Int} (h : Rd k w a n c xs) (hp : 0 < (xs.map (Value.int k)).length) :
    ∃ ad, a = some ad ∧ ∀ j v, (xs.map (Value.int k))[j]? = some v → w.cell? (ad.add j) = some v := by
  simp only [List.length_map, h.len] at hp
  obtain ⟨b, off, rfl, _, hc⟩ := h.at hp
  refine ⟨_, rfl, fun j v hj => ?_⟩
  have hlt : j < xs.length := by
    have := (List.getElem?_eq_some_iff.1 hj).1
    simpa using this
  rw [getD_map_int k xs j hlt] at hj
  have e : (⟨b, off, none⟩ : Addr).add j = ⟨b, off + j, none⟩ := Addr.add_lit b off j
  rw [e, hc j (by rw [← h.len]; exact hlt)]
  exact hj
theorem mid_set (xs : List Int) (k room : Nat) (hk : k < room) :
    (xs.map (Value.int .i64) ++ List.replicate k (Value.int .i64 7) ++ List.replicate (room - k) (Value.int .i64 0)).set (xs.length + k) (.int .i64 7) =
      xs.map (Value.int .i64) ++ List.replicate (k + 1) (.int .i64 7) ++ List.replicate (room - (k + 1)) (Value.int .i64 0) := by
  have e : room - k = (room - (k + 1)) + 1 := by omega
  rw [e, List.replicate_succ, List.set_append_right _ _ (by simp)]
  simp [List.replicate_succ']
theorem mid_get (xs : List Int) (k room : Nat) (hk : k < room) :
    (xs.map (Value.int .i64) ++ List.replicate k (Value.int .i64 7) ++ List.replicate (room - k) (Value.int .i64 0))[xs.length + k]? = some (.int .i64 0) := by
  rw [List.getElem?_append_right (by simp)]
  simp [List.getElem?_replicate]
  omega

set_option maxHeartbeats 400000 in
theorem spare_calls (a : Option Addr) (n c room : Nat) (xs : List Int) (w : World) (h : Rd .i64 w a n c xs) (hc : n * 8 ≤ 140737488351232) (hr : room ≤ 65535) (hne : a.isNone = true → 0 < room) :
    Calls Try.prog 26 #[.slice a n c, .int .u16 room] w fun e w' => e = .returned (.slice (some ⟨w.heap.size, 0, none⟩) n (n + room)) ∧
      w'.heap[w.heap.size]? = some (.cells (spareCells xs room).toArray 3 (0, 0)) ∧ Below w.heap.size w w' := by
  have l := h.le
  have hq := fun w => Lib.run_eql_slice_nil (P := Try.prog) w 22 3 a n c 0 0 Try.underlying22
  obtain ⟨i0, hi, hz0, hz1, hz2⟩ := info_parts infoInt
  have hmk : ∀ u : World, (Instr.makeSlice 22 (.int .i64 (n : Int)) (.int .i64 ((n : Int) + (room : Int)))).run Try.prog u =
      .ok (.slice (some ⟨u.heap.size, 0, none⟩) n (n + room)) (u.alloc (.cells (Array.replicate (n + room) (Value.int .i64 0)) 3)) := fun u => by
    have h := run_make (P := Try.prog) u 22 3 i0 (.int .i64 0) Try.underlying22 hi hz0 .i64 .i64 (n : Int) ((n : Int) + (room : Int)) (by omega) (by omega) (by rw [hz2]; omega) (by omega)
    have e : ((n : Int) + (room : Int)).toNat = n + room := by omega
    have e2 : madeCells (Value.int .i64 0).cells (n + room) = Array.replicate (n + room) (Value.int .i64 0) := by
      have := toList_madeCells_one (.int .i64 0) (n + room)
      apply Array.toList_inj.1
      simpa [Value.cells] using this
    rw [e, hz1, Nat.mul_one, e2] at h
    simpa using h
  clear hi hz0 hz1 hz2
  have hxl := Lib.hid h.len
  have hg : Hid ((w.alloc (.cells (Array.replicate (n + room) (Value.int .i64 0)) 3)).heap[w.heap.size]? = some (.cells (List.replicate (n + room) (Value.int .i64 0)).toArray 3 (0, 0))) := by
    show _ = _
    rw [heap_alloc_new, List.toArray_replicate]
  have hb0 : Below w.heap.size w (w.alloc (.cells (Array.replicate (n + room) (Value.int .i64 0)) 3)) := (Below.refl _ _).alloc (Nat.le_refl _) _
  have hH : Hid (Rd .i64 (w.alloc (.cells (Array.replicate (n + room) (Value.int .i64 0)) 3)) a n c xs) := h.below hb0 (Nat.le_refl _)
  have hn : Hid ((xs.map (Value.int .i64)).length = Nat.min n n) := by show _ = _; simp [hxl.out]
  have hp : Hid (0 < (xs.map (Value.int .i64)).length → some (⟨w.heap.size, 0, none⟩ : Addr) = some ⟨w.heap.size, 0, none⟩ ∧ ∃ ad, a = some ad ∧ ∀ j v, (xs.map (Value.int .i64))[j]? = some v →
      (w.alloc (.cells (Array.replicate (n + room) (Value.int .i64 0)) 3)).cell? (ad.add j) = some v) := fun hp => ⟨rfl, hH.out.news hp⟩
  have hf : Hid (0 + (xs.map (Value.int .i64)).length ≤ (List.replicate (n + room) (Value.int .i64 0)).length) := by show _ ≤ _; simp [hxl.out]
  have hgo : Hid (∀ w1 : World, w1.heap[w.heap.size]? = some (.cells (splice (List.replicate (n + room) (Value.int .i64 0)) 0 (xs.map (Value.int .i64))).toArray 3 (0, 0)) →
      w1.heap[w.heap.size]? = some (.cells (xs.map (Value.int .i64) ++ List.replicate 0 (Value.int .i64 7) ++ List.replicate (room - 0) (Value.int .i64 0)).toArray 3 (0, 0))) := by
    intro w1 h1
    rw [h1]
    have e := hxl.out
    congr 3
    simp [splice, e, List.drop_replicate]
  have hen : Hid (∀ w1 : World, w1.heap[w.heap.size]? = some (.cells (xs.map (Value.int .i64) ++ List.replicate room (Value.int .i64 7) ++ List.replicate (room - room) (Value.int .i64 0)).toArray 3 (0, 0)) →
      w1.heap[w.heap.size]? = some (.cells (spareCells xs room).toArray 3 (0, 0))) := by
    intro w1 h1
    rw [h1]
    simp [spareCells]
  have hsl := fun u => run_cut_both (P := Try.prog) u 22 3 (some ⟨w.heap.size, 0, none⟩) n (n + room) n (n + room) .i64 .i64 Try.underlying22 sizeInt (n : Int) ((n : Int) + (room : Int)) rfl (by omega) (by omega) (Nat.le_refl _)
  have er : n + room - n = room := by omega
  rw [er] at hsl
  obtain ⟨o, ho, ho2⟩ := cutA_some w.heap.size 0 (n + room) n
  have ho3 := Lib.hid ho2
  rw [ho] at hsl
  clear ho ho2 er
  have hz : a.isNone = false ∨ (0 < room ∧ a.isNone = true) := by
    cases ha : a.isNone
    · simp
    · have := hne ha; simp; omega
  clear hne
  rcases hz with ha | ⟨hr0, ha⟩
  all_goals
    rw [ha] at hq
    clear ha
    go_enter Try.func26, Try.ntmps26
    go_wp2_with ((with_reducible refine wpList_copy_splice rfl (.tmp 22) (.tmp 23) 22 22 rfl 3 Try.underlying22 sizeInt _ _ _ _ _ _ rfl rfl w.heap.size 0 (List.replicate (n + room) (Value.int .i64 0)) 3 hg.out (xs.map (Value.int .i64)) hn.out hp.out hf.out (ints_oneCell _ _) w.heap.size w hb0 (Nat.le_refl _) ?_))
    intro w1 hg1 hb1
    have hg2 := Lib.hid (hgo.out w1 hg1.out)
    clear hn hp hf hg hb0 hH hmk hq hgo hg1
    go_wp2
    go_loopw [33] (fun i wr => ∃ k : Nat, k ≤ room ∧ i = .int .i64 k ∧ Below w.heap.size w wr ∧ Hid (wr.heap[w.heap.size]? = some (.cells (xs.map (Value.int .i64) ++ List.replicate k (Value.int .i64 7) ++ List.replicate (room - k) (Value.int .i64 0)).toArray 3 (0, 0)))) (fun i _ => room - (intOf i).toNat)
    case atStart => exact ⟨0, Nat.zero_le _, rfl, hb1, hg2⟩
    case round =>
      clear hsl
      obtain ⟨k, hk, rfl, hb, hgr⟩ := hrel
      by_cases hlt : k < room
      · have eo : o = n := by have := ho3.out (by omega); omega
        subst eo
        have hcell : wr.cell? ⟨w.heap.size, o + k, none⟩ = some (.int .i64 0) := blk_cell hgr.out (by have := mid_get xs k room hlt; rwa [hxl.out] at this)
        have hfree : wr.frozen? ⟨w.heap.size, o + k, none⟩ = false := blk_free hgr.out
        go_wp2
        go_roundw
        case rel => exact ⟨k + 1, by omega, by go_num, below_set hb (Nat.le_refl _), by have := blk_set (o := o + k) (v := .int .i64 7) hgr.out; have e := mid_set xs k room hlt; rw [hxl.out] at e; rw [e] at this; exact this⟩
        case measure => simp [intOf]; omega
      · go_wp2
        go_ret
        obtain rfl : k = room := by omega
        exact ⟨rfl, hen.out wr hgr.out, hb⟩

end Go.Proofs.Ytgmnonijhgipbaa

/- slices.Clip, impl.Clip and the law FnExactClip, walked. -/
import Derived.Test.YtmhkffjbmdhekaaSame
import Derived.Test.YtmhkffjbmdhekaaSpare
namespace Go.Proofs.Ytmhkffjbmdhekaa
open Go.RowKit
set_option linter.unusedVariables false

theorem lclip_calls (a : Option Addr) (n c : Nat) (w : World) (h : n ≤ c) (hc : c ≤ 9223372036854775807) :
    Calls Try.prog 19 #[.slice a n c] w fun e w' => e = .returned (.slice a n n) ∧ w = w' := by
  have hsl := fun u => run_cut_full (P := Try.prog) u 22 3 a n c n n .i64 .i64 Try.underlying22 sizeInt (n : Int) (n : Int) rfl rfl (Nat.le_refl _) h
  go_enter Try.func19, Try.ntmps19
  go_wp2
  go_ret
  exact ⟨rfl, rfl⟩

theorem clip_calls_nil (w : World) :
    Calls Try.prog 10 #[.slice none 0 0, .int .u16 0] w fun e w' => e = .returned (.tuple #[.slice none 0 0, .int .i64 0, .bool true]) ∧ w = w' := by
  have hq := fun w => Lib.run_eql_slice_nil (P := Try.prog) w 22 3 none 0 0 0 0 Try.underlying22
  go_enter Try.func10, Try.ntmps10
  go_wp2_with (first
    | (go_at_call 20; refine (spare_nil _).mono ?_; rintro e w' ⟨rfl, rfl⟩)
    | (go_at_call 19; refine (lclip_calls _ _ _ _ (by omega) (by omega)).mono ?_; rintro e w' ⟨rfl, rfl⟩))
  go_ret3
  exact ⟨rfl, rfl⟩

theorem clip_calls (a : Option Addr) (n c room : Nat) (xs : List Int) (w : World) (h : Rd .i64 w a n c xs) (hc : c * 8 ≤ 140737488351232) (hr : room ≤ 65535) (hne : a.isNone = true → 0 < room) :
    Calls Try.prog 10 #[.slice a n c, .int .u16 room] w fun e w' => e = .returned (.tuple #[.slice (some ⟨w.heap.size, 0, none⟩) n n, .int .i64 0, .bool false]) ∧
      w'.heap[w.heap.size]? = some (.cells (spareCells xs room).toArray 3 (0, 0)) ∧ Below w.heap.size w w' := by
  have l := h.le
  have hq := fun u => Lib.run_eql_slice_nil (P := Try.prog) u 22 3 (some ⟨w.heap.size, 0, none⟩) n n 0 0 Try.underlying22
  go_enter Try.func10, Try.ntmps10
  go_wp2_with fail
  refine (spare_calls a n c room xs w h hc hr hne).mono ?_
  rintro e w1 ⟨rfl, hg, hb⟩
  have hg' := Lib.hid hg
  clear hg
  go_wp2_with fail
  refine (lclip_calls _ _ _ _ (by omega) (by omega)).mono ?_
  rintro e w2 ⟨rfl, rfl⟩
  go_wp2
  go_ret3
  exact ⟨rfl, hg'.out, hb⟩

theorem spare_rd {w : World} {g room n c : Nat} {xs : List Int} (h : w.heap[g]? = some (.cells (spareCells xs room).toArray 3 (0, 0))) (hn : xs.length = n) (hc : n ≤ c) (hm : c ≤ 9223372036854775807) : Rd .i64 w (some ⟨g, 0, none⟩) n c xs := by
  refine Rd.blk h hn hc hm fun i hi => ?_
  unfold spareCells
  rw [Nat.zero_add, List.getElem?_append_left (by simp; omega)]
  exact getD_map_int .i64 xs i (by omega)

theorem fnExactClip_walk (a0 : Option Addr) (n0 c0 : Nat) (x0 : List Int) (m1 : Nat) (w : World) (h0 : Rd .i64 w a0 n0 c0 x0) (f0 : ∀ x ∈ x0, (Lit.int .i64 x).wf = true) (s0 : c0 * 8 ≤ 140737488351232) (h1 : m1 ≤ 65535) :
    Calls Try.prog 3 #[.slice a0 n0 c0, .int .u16 (m1 : Int)] w fun e w' => e = .returned (.bool true) ∧ Below w.heap.size w w' := by
  have l := h0.le
  clear f0
  have hq := fun u => Lib.run_eql_slice_nil (P := Try.prog) u 22 3 a0 n0 c0 0 0 Try.underlying22
  by_cases hz : a0.isNone = true ∧ m1 = 0
  · obtain ⟨ha, rfl⟩ := hz
    obtain rfl : a0 = none := by simpa using ha
    obtain ⟨rfl, rfl⟩ := h0.2.2.2.1 rfl
    obtain rfl : x0 = [] := List.eq_nil_of_length_eq_zero h0.len
    go_enter Try.func3, Try.ntmps3
    go_wp2_with fail
    refine (clip_calls_nil _).mono ?_
    rintro e w1 ⟨rfl, rfl⟩
    go_wp2_with fail
    refine (same_calls _ _ _ _ _ _ _ _ _ h0 h0).mono ?_
    rintro e w2 ⟨rfl, hb⟩
    simp only [decide_true]
    go_wp2
    go_ret
    exact ⟨rfl, hb⟩
  · go_enter Try.func3, Try.ntmps3
    go_wp2_with fail
    refine (clip_calls a0 n0 c0 m1 x0 w h0 s0 h1 (fun e => by by_cases hm : m1 = 0; exact absurd ⟨e, hm⟩ hz; omega)).mono ?_
    rintro e w1 ⟨rfl, hg, hb⟩
    have hg' := Lib.hid hg
    clear hg
    go_wp2_with fail
    refine (same_calls _ _ _ _ _ _ _ _ _ (spare_rd hg'.out h0.len (Nat.le_refl _) (by omega)) (h0.below hb (Nat.le_refl _))).mono ?_
    rintro e w2 ⟨rfl, hb2⟩
    simp only [decide_true]
    have hb3 := hb.trans (hb2.mono hb.size)
    have t : (a0.isNone && decide ((m1 : Int) = 0)) = false := by
      cases ha : a0.isNone
      · rfl
      · simp; intro hm; exact hz ⟨ha, by omega⟩
    have hz' := Lib.hid hz
    clear hz
    cases ha : a0.isNone
    · rw [ha] at hq
      go_wp2
      go_ret
      exact ⟨rfl, hb3⟩
    · rw [ha] at hq
      have hm : ((m1 : Int) == 0) = false := by simp; intro hm; exact hz'.out ⟨ha, by omega⟩
      go_wp2
      go_ret
      exact ⟨rfl, hb3⟩

end Go.Proofs.Ytmhkffjbmdhekaa

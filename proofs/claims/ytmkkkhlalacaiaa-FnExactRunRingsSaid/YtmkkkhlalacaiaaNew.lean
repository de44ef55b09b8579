/- ring.New. -/
import Derived.Test.YtmkkkhlalacaiaaRing
namespace Go.Proofs.Ytmkkkhlalacaiaa
open Go.RowKit
open Go.Proofs.Ytmkkkhlalacaiaa.Rm
set_option linter.unusedVariables false

/-- The next and the previous one in a new ring of n elements. -/
def cnx (n k : Nat) : Nat := if k + 1 = n then 0 else k + 1
def cpv (n k : Nat) : Nat := if k = 0 then n - 1 else k - 1
theorem c_inv (n : Nat) : Inv n (cnx n) (cpv n) := by
  refine ⟨?_, ?_, ?_, ?_⟩ <;> intro i hi <;> simp only [cnx, cpv] <;> (repeat' split) <;> omega

/-- What New keeps while it makes elements: j + 1 of them. -/
def NewCells (H j : Nat) (w : World) : Prop :=
  w.heap.size = H + j + 1 ∧ ∀ k, k ≤ j → w.heap[H + k]? = some (.cells [if k = j then Value.pointer none else ptr (H + k + 1), if k = 0 then Value.pointer none else ptr (H + k - 1), .nilIface].toArray 68 (0, 0))

theorem NewCells.start (w : World) : NewCells w.heap.size 0 (w.alloc (.cells #[.pointer none, .pointer none, .nilIface] 68)) := by
  refine ⟨by simp, fun k hk => ?_⟩
  obtain rfl : k = 0 := by omega
  simpa using heap_alloc_new w _
theorem NewCells.step {H j : Nat} {w : World} (h : NewCells H j w) :
    NewCells H (j + 1) ((w.setCell ⟨H + j, 0, none⟩ (ptr w.heap.size)).alloc (.cells #[.pointer none, ptr (H + j), .nilIface] 68)) := by
  obtain ⟨h1, h2⟩ := h
  have hs : (w.setCell ⟨H + j, 0, none⟩ (ptr w.heap.size)).heap.size = H + j + 1 := by simp [World.setCell]; exact h1
  refine ⟨by simp only [World.size_alloc, hs]; omega, fun k hk => ?_⟩
  by_cases e1 : k = j + 1
  · subst e1
    have := heap_alloc_new (w.setCell ⟨H + j, 0, none⟩ (ptr w.heap.size)) (.cells #[.pointer none, ptr (H + j), .nilIface] 68)
    rw [hs, show H + j + 1 = H + (j + 1) by omega] at this
    simpa using this
  · rw [Below.heap_alloc _ _ _ (by rw [hs]; omega)]
    by_cases e2 : k = j
    · subst e2
      have := blk_set (o := 0) (v := ptr w.heap.size) (h2 k (Nat.le_refl _))
      rw [this]
      simp [h1]
    · rw [blk_other (by omega), h2 k (by omega)]
      simp [e1, e2]
theorem NewCells.done {H n : Nat} {w : World} (hn : 1 ≤ n) (h : NewCells H (n - 1) w) :
    Rg ((w.setCell ⟨H + (n - 1), 0, none⟩ (ptr H)).setCell ⟨H, 1, none⟩ (ptr (H + (n - 1)))) (fun k => H + k) n (cnx n) (cpv n) (fun _ => .nilIface) ∧
      ∀ k, k < n → Live ((w.setCell ⟨H + (n - 1), 0, none⟩ (ptr H)).setCell ⟨H, 1, none⟩ (ptr (H + (n - 1)))) (fun k => H + k) (cnx n) (cpv n) (fun _ => .nilIface) k := by
  obtain ⟨h1, h2⟩ := h
  have hl : ∀ k, k < n → Live ((w.setCell ⟨H + (n - 1), 0, none⟩ (ptr H)).setCell ⟨H, 1, none⟩ (ptr (H + (n - 1)))) (fun k => H + k) (cnx n) (cpv n) (fun _ => .nilIface) k := by
    intro k hk
    have h3 := h2 k (by omega)
    unfold Live
    -- the first store
    have s1 : (w.setCell ⟨H + (n - 1), 0, none⟩ (ptr H)).heap[H + k]? = some (.cells [ptr (H + cnx n k), if k = 0 then Value.pointer none else ptr (H + k - 1), .nilIface].toArray 68 (0, 0)) := by
      by_cases e : k = n - 1
      · subst e
        have := blk_set (o := 0) (v := ptr H) h3
        rw [this]
        simp [cnx, show n - 1 + 1 = n by omega]
      · rw [blk_other (by omega), h3]
        simp [e, cnx, show ¬ k + 1 = n by omega, Nat.add_assoc]
    by_cases e : k = 0
    · subst e
      have := blk_set (o := 1) (v := ptr (H + (n - 1))) s1
      simp only [Nat.add_zero] at this ⊢
      rw [this]
      simp [cpv]
    · show (World.setCell _ _ _).heap[H + k]? = _
      rw [blk_other (by omega), s1]
      simp [e, cpv, show H + k - 1 = H + (k - 1) by omega]
  exact ⟨⟨c_inv n, fun i j _ _ e => by have e' : H + i = H + j := e; omega, fun i hi => .inl (hl i hi)⟩, hl⟩

/-- What New comes to, for a positive number. -/
def NewPost (w : World) (n : Nat) (e : Ending) (w' : World) : Prop :=
  e = .returned (ptr w.heap.size) ∧ w'.heap.size = w.heap.size + n ∧ Rg w' (fun k => w.heap.size + k) n (cnx n) (cpv n) (fun _ => .nilIface) ∧ (∀ k, k < n → Live w' (fun k => w.heap.size + k) (cnx n) (cpv n) (fun _ => .nilIface) k) ∧ Below w.heap.size w w'

theorem new_none (w : World) (n : Int) (hn : n ≤ 0) :
    Calls Try.prog 32 #[.int .i64 n] w fun e w' => e = .returned (.pointer none) ∧ w = w' := by
  go_enter Try.func32, Try.ntmps32
  go_wp2
  go_ret
  exact ⟨rfl, rfl⟩

set_option maxHeartbeats 1000000 in
theorem new_calls (w : World) (n : Nat) (hn : 1 ≤ n) (hm : n ≤ 1000000000) :
    Calls Try.prog 32 #[.int .i64 (n : Int)] w (NewPost w n) := by
  have h0 := Lib.hid (NewCells.start w)
  have hb0 : Below w.heap.size w (w.alloc (.cells #[.pointer none, .pointer none, .nilIface] 68)) := (Below.refl _ _).alloc (Nat.le_refl _) _
  have t0 : decide (n = 0) = false := by simp; omega
  have hpos : (0 : Int) < (n : Int) := by omega
  go_enter Try.func32, Try.ntmps32
  go_wp2
  go_loopw [4, 5] (fun p i wr => ∃ j : Nat, j < n ∧ p = ptr (w.heap.size + j) ∧ i = .int .i64 ((j : Int) + 1) ∧ Hid (NewCells w.heap.size j wr) ∧ Below w.heap.size w wr) (fun _ i _ => n - (intOf i).toNat)
  case atStart => exact ⟨0, by omega, rfl, rfl, h0, hb0⟩
  case round =>
    clear h0 hb0
    obtain ⟨j, hj, rfl, rfl, hC, hb⟩ := hrel
    have hblk := hC.out.2 j (Nat.le_refl _)
    have hsz := hC.out.1
    have hlt0 : w.heap.size + j < wr.heap.size := by omega
    by_cases hlt : j + 1 < n
    · have hst := Lib.hid hC.out.step
      rw [if_pos rfl] at hblk
      have c0 : wr.cell? ⟨w.heap.size + j, 0, none⟩ = some (.pointer none) := blk_cell hblk rfl
      have f0 : wr.frozen? ⟨w.heap.size + j, 0, none⟩ = false := blk_free hblk
      have c1 : (wr.setCell ⟨w.heap.size + j, 0, none⟩ (ptr wr.heap.size)).cell? ⟨w.heap.size + j, 0, none⟩ = some (ptr wr.heap.size) := blk_cell (blk_set hblk) rfl
      have c2 : ((wr.setCell ⟨w.heap.size + j, 0, none⟩ (ptr wr.heap.size)).alloc (.cells #[.pointer none, ptr (w.heap.size + j), .nilIface] 68)).cell? ⟨w.heap.size + j, 0, none⟩ = some (ptr wr.heap.size) := by
        rw [World.cell?_of_block (w := wr.setCell ⟨w.heap.size + j, 0, none⟩ (ptr wr.heap.size)) (Below.heap_alloc _ _ _ (by simp [World.setCell]; exact hlt0))]
        exact c1
      have hsz' := Lib.hid hsz
      clear hblk hsz
      go_wp2
      go_roundw
      case rel => exact ⟨j + 1, hlt, by rw [hsz'.out]; rfl, by go_num, hst, (below_set hb (by omega)).alloc (by simp [World.setCell]; omega) _⟩
      case measure => simp [intOf]; omega
    · obtain rfl : n = j + 1 := by omega
      have hd := (show NewCells w.heap.size (j + 1 - 1) wr from hC.out).done (by omega)
      simp only [Nat.add_sub_cancel] at hd
      have c0 : wr.cell? ⟨w.heap.size + j, 0, none⟩ = some (if j = j then Value.pointer none else ptr (w.heap.size + j + 1)) := blk_cell hblk rfl
      rw [if_pos rfl] at c0
      have f0 : wr.frozen? ⟨w.heap.size + j, 0, none⟩ = false := blk_free hblk
      obtain ⟨u, c1, f1⟩ : ∃ u, (wr.setCell ⟨w.heap.size + j, 0, none⟩ (ptr w.heap.size)).cell? ⟨w.heap.size, 1, none⟩ = some u ∧ (wr.setCell ⟨w.heap.size + j, 0, none⟩ (ptr w.heap.size)).frozen? ⟨w.heap.size, 1, none⟩ = false := by
        have hz := hC.out.2 0 (by omega)
        simp only [Nat.add_zero] at hz
        by_cases e : j = 0
        · subst e
          have := blk_set (o := 0) (v := ptr w.heap.size) hz
          exact ⟨_, blk_cell this rfl, blk_free this⟩
        · have : (wr.setCell ⟨w.heap.size + j, 0, none⟩ (ptr w.heap.size)).heap[w.heap.size]? = _ := (blk_other (by omega)).trans hz
          exact ⟨_, blk_cell this rfl, blk_free this⟩
      have hd' := Lib.hid hd
      have hsz' := Lib.hid hsz
      clear hd hblk hsz
      go_wp2
      go_ret
      refine ⟨rfl, ?_, hd'.out.1, hd'.out.2, below_set (below_set hb (by omega)) (Nat.le_refl _)⟩
      have := hsz'.out
      simp [World.setCell]
      omega

end Go.Proofs.Ytmkkkhlalacaiaa

/- impl.NewDo and the law FnExactNewDo. -/
import Derived.Test.YtjkpphenfcddlaaDo
import Derived.Test.YtjkpphenfcddlaaNewLaws
namespace Go.Proofs.Ytjkpphenfcddlaa
open Go.RowKit
open Go.Proofs.Ytjkpphenfcddlaa.Rm
set_option linter.unusedVariables false

/-- The two counts that the closure keeps. -/
structure Two (w0 : World) (k : Nat) (u : World) : Prop where
  all : u.heap[w0.heap.size]? = some (.cells [Value.int .i64 (k : Int)].toArray 3 (0, 0))
  none' : u.heap[w0.heap.size + 1]? = some (.cells [Value.int .i64 (k : Int)].toArray 3 (0, 0))
  below : Below w0.heap.size w0 u

theorem newDoBody_calls (w0 u : World) (k : Nat) (hk : k ≤ 1000000) (h : Two w0 k u) :
    Calls Try.prog 43 #[.nilIface, ptr w0.heap.size, ptr (w0.heap.size + 1)] u fun e u' => e = .returned (.tuple #[]) ∧ Two w0 (k + 1) u' ∧ ∀ j, j ≠ w0.heap.size → j ≠ w0.heap.size + 1 → u'.heap[j]? = u.heap[j]? := by
  obtain ⟨h1, h2, h3⟩ := h
  have c0 : u.cell? ⟨w0.heap.size, 0, none⟩ = some (.int .i64 (k : Int)) := blk_cell h1 rfl
  have f0 : u.frozen? ⟨w0.heap.size, 0, none⟩ = false := blk_free h1
  have h2' : (u.setCell ⟨w0.heap.size, 0, none⟩ (.int .i64 ((k : Int) + 1))).heap[w0.heap.size + 1]? = _ := (blk_other (by omega)).trans h2
  have c1 : (u.setCell ⟨w0.heap.size, 0, none⟩ (.int .i64 ((k : Int) + 1))).cell? ⟨w0.heap.size + 1, 0, none⟩ = some (.int .i64 (k : Int)) := blk_cell h2' rfl
  have f1 : (u.setCell ⟨w0.heap.size, 0, none⟩ (.int .i64 ((k : Int) + 1))).frozen? ⟨w0.heap.size + 1, 0, none⟩ = false := blk_free h2'
  have h1' := blk_set (o := 0) (v := .int .i64 ((k : Int) + 1)) h1
  have r : Hid (Two w0 (k + 1) ((u.setCell ⟨w0.heap.size, 0, none⟩ (.int .i64 ((k : Int) + 1))).setCell ⟨w0.heap.size + 1, 0, none⟩ (.int .i64 ((k : Int) + 1)))) := by
    refine ⟨(blk_other (by omega)).trans h1', blk_set h2', below_set (below_set h3 (Nat.le_refl _)) (by omega)⟩
  have r2 : Hid (∀ j, j ≠ w0.heap.size → j ≠ w0.heap.size + 1 → ((u.setCell ⟨w0.heap.size, 0, none⟩ (.int .i64 ((k : Int) + 1))).setCell ⟨w0.heap.size + 1, 0, none⟩ (.int .i64 ((k : Int) + 1))).heap[j]? = u.heap[j]?) :=
    fun j a b => (blk_other b).trans (blk_other a)
  clear h1 h2 h3 h2' h1'
  go_enter Try.func43, Try.ntmps43
  go_wp2
  go_end0
  exact ⟨rfl, r.out, r2.out⟩

/-- What impl.NewDo comes to. -/
def NewDoPost (w : World) (m : Nat) (e : Ending) (w' : World) : Prop :=
  e = .returned (.tuple #[.int .i64 (m : Int), .int .i64 (m : Int)]) ∧ Below w.heap.size w w'

theorem two_start (w : World) : Two w 0 ((w.alloc (.cells #[.int .i64 0] 3)).alloc (.cells #[.int .i64 0] 3)) := by
  have s1 : (w.alloc (.cells #[.int .i64 0] 3)).heap.size = w.heap.size + 1 := by simp
  refine ⟨?_, ?_, ((Below.refl _ _).alloc (Nat.le_refl _) _).alloc (by omega) _⟩
  · rw [Below.heap_alloc _ _ _ (by omega)]
    exact heap_alloc_new w _
  · have := heap_alloc_new (w.alloc (.cells #[.int .i64 0] 3)) (.cells #[.int .i64 0] 3)
    rw [s1] at this
    exact this
theorem two_steps (w w2 : World) (n : Nat) (hn : n ≤ 65535) (hs : w.heap.size + 2 ≤ w2.heap.size) :
    Steps (fun v u => Calls Try.prog 43 #[v, ptr w.heap.size, ptr (w.heap.size + 1)] u) (fun k => w2.heap.size + k) n (cnx n) (cpv n) (fun _ => .nilIface) (Two w) 0 n := by
  refine ⟨?_, ?_⟩
  · intro k u u' h r
    refine ⟨(r.block _ (fun i hi => by omega)).trans h.all, (r.block _ (fun i hi => by omega)).trans h.none', h.below.trans (r.below (fun i hi => by omega))⟩
  · intro k u hk _ h
    refine (newDoBody_calls w u k (by omega) h).mono ?_
    rintro e u' ⟨rfl, h1, h2⟩
    exact ⟨rfl, h1, fun j hj => h2 _ (by omega) (by omega)⟩

set_option maxHeartbeats 400000 in
theorem newDo_calls (w : World) (n : Nat) (hn : n ≤ 65535) :
    Calls Try.prog 28 #[.int .u16 (n : Int)] w (NewDoPost w n) := by
  have hmf : ∀ (fn : Fn) (first cap : Array Value) (w : World), (Instr.makeFunc fn first cap).run Try.prog w = .ok (.func fn first cap) w := fun _ _ _ _ => rfl
  have ht := two_start w
  have hs1 : w.heap.size + 2 ≤ ((w.alloc (.cells #[.int .i64 0] 3)).alloc (.cells #[.int .i64 0] 3)).heap.size := by simp
  have hj := two_steps w _ n hn hs1
  have hs2 : ((w.alloc (.cells #[.int .i64 0] 3)).alloc (.cells #[.int .i64 0] 3)).heap.size = w.heap.size + 1 + 1 := by simp
  have hT : ∀ u, Two w n u → u.cell? ⟨w.heap.size, 0, none⟩ = some (.int .i64 (n : Int)) ∧ u.cell? ⟨w.heap.size + 1, 0, none⟩ = some (.int .i64 (n : Int)) := fun u h => ⟨blk_cell h.all rfl, blk_cell h.none' rfl⟩
  by_cases hz : n = 0
  · subst hz
    have ht' := Lib.hid ht
    obtain ⟨c0, c1⟩ := hT _ ht
    have hb := ht.below
    clear ht hj hs1 hs2 hT
    go_enter Try.func28, Try.ntmps28
    go_wp2_with fail
    refine (new_none _ 0 (by omega)).mono ?_
    rintro e w1 ⟨rfl, rfl⟩
    go_wp2_with fail
    refine (do_nil _ _).mono ?_
    rintro e w1 ⟨rfl, rfl⟩
    go_wp2
    go_quiet (fail)
    go_wp2
    go_ret2
    exact ⟨rfl, below_drewN hb _⟩
  · have hnew := new_calls ((w.alloc (.cells #[.int .i64 0] 3)).alloc (.cells #[.int .i64 0] 3)) n (by omega) (by omega)
    have ht' := Lib.hid ht
    have hj' := Lib.hid hj
    have hs2' := Lib.hid hs2
    clear ht hj hs1 hs2
    go_enter Try.func28, Try.ntmps28
    go_wp2_with fail
    refine hnew.mono ?_
    clear hnew
    rintro e w3 ⟨rfl, h1, h2, h3, h4⟩
    have htw : Two w 0 w3 := ⟨(h4.block _ (by rw [hs2'.out]; omega)).trans ht'.out.all, (h4.block _ (by rw [hs2'.out]; omega)).trans ht'.out.none', ht'.out.below.trans (h4.mono (by rw [hs2'.out]; omega))⟩
    have hdo := do_two w3 _ n _ _ _ 0 _ 43 (ptr w.heap.size) (ptr (w.heap.size + 1)) (Two w) (enters Try.func43 (by kernel_rfl) rfl) h2 (by omega) (c_ring n (by omega)) htw (by simpa using hj'.out)
    simp only [List.length_range', Nat.add_zero, hs2'.out] at hdo
    clear h1 h2 h3 h4 htw
    go_wp2_with fail
    refine hdo.mono ?_
    rintro e w4 ⟨rfl, h5, _⟩
    obtain ⟨c0, c1⟩ := hT _ h5
    have hb := h5.below
    clear h5 hdo hT
    go_wp2
    go_quiet (fail)
    go_wp2
    go_ret2
    exact ⟨rfl, below_drewN hb _⟩

end Go.Proofs.Ytjkpphenfcddlaa

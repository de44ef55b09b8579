/- The statement on laws.FnExactRunRings: for every input the call returns true, and each argument reads behind it as it read before. No conditions. -/
import Derived.Test.YtmkkkhlalacaiaaFrame
import Derived.Test.YtmkkkhlalacaiaaRunLaw
import Derived.Test.YtmkkkhlalacaiaaFrameO
namespace Go.Proofs.Ytmkkkhlalacaiaa.fnExactRunRingsDone
open Go.ChangeShapes Go.WideShapes Go.ChangeAt Go.RowKit
set_option linter.unusedVariables false

set_option maxRecDepth 100000 in
theorem lifted (os : Os) (started : os.Started) (H : Type) (enc : TypeId × Value → H) :
    ReturnsInHanded {} Try.checked os 3 .any (Rows.fnExactRunRingsSpec.pre6 enc Try.prog Try.f3 Rows.fnExactRunRingsRow.domain false) (Rows.fnExactRunRingsSpec.post enc Try.prog Try.f3 false true false false) := by
  refine returnsInHanded_of_change_sized (C := Try.checked) ownKnobs started (by kernel_rfl) Try.func3
    (ChangeSpec.witness6 (enc := enc) (C := Try.checked) false ⟨#[], #[.slice none 0 0, .slice none 0 0], []⟩ 8 (by kernel_rfl) (by kernel_rfl) (by kernel_rfl) (by kernel_rfl)) ?_
  intro W base args ds gs before hval0 hW hcnd hsz0 _
  have hval : ∀ (j : Nat) t v, Try.f3.params[j]? = some t → args[j]? = some v → Value.okWide Try.prog W .any base t v := hval0
  have hsz : (DataW.weightsEach Try.prog (Try.f3.params.toList ++ Rows.fnExactRunRingsSpec.plain.varTypes Try.prog) (ds ++ gs)).all (· ≤ reachBytes) = true := hsz0
  have hW' := hW
  obtain ⟨p, q, hA0, hV, rfl, hfz, hnd⟩ := hW
  have hA : DataW.TrodAll enc Try.prog W 0 (fun _ => true) true Try.f3.params.toList args.toList ds p := hA0
  rw [Try.params3] at hA hval hsz
  obtain ⟨v0, vs0, d0, ds0, p0, q0, hargs, rfl, rfl, h0, r0⟩ := trodAll_cons hA
  obtain ⟨v1, vs1, d1, ds1, p1, q1, rfl, rfl, rfl, h1, r1⟩ := trodAll_cons r0
  obtain ⟨rfl, rfl, rfl⟩ := trodAll_nil r1
  obtain rfl : args = #[v0, v1] := by cases args; simp_all
  obtain ⟨rfl, rfl⟩ := trodVars_none hV
  have lt0 : ∀ x ∈ p0, x.block < W.heap.size := by obtain ⟨m, hm⟩ := h0; exact DataW.trod_lt m _ _ _ hm
  obtain ⟨a0, n0, c0, x0, rfl, rd0, wf0, ad0, fm0⟩ := open_rd Try.underlying22 Try.underlying25 (by kernel_rfl) (hval 0 22 v0 rfl rfl) h0
  have sz0 : c0 * 2 ≤ 140737488351232 := by
    have e : Try.prog.bytesOf 25 = 2 := by kernel_rfl
    have := sized_rd hsz 0 (t := 22) (e := 25) rfl rfl Try.underlying22 fm0
    rwa [e] at this
  have lt1 : ∀ x ∈ p1, x.block < W.heap.size := by obtain ⟨m, hm⟩ := h1; exact DataW.trod_lt m _ _ _ hm
  obtain ⟨a1, n1, c1, x1, rfl, rd1, ad1⟩ := open_rdo Try.underlying23 Try.underlying47 (by kernel_rfl) (by kernel_rfl) Try.underlying9 Try.underlying25 Try.underlying25 Try.underlying3 (hval 1 23 v1 rfl rfl) h1
  clear hA0 hval0 hsz0
  refine (fnExactRunRings_walk a0 n0 c0 x0 a1 n1 c1 x1 W rd0 wf0 sz0 rd1 ad1).mono fun e W' ⟨he, bel⟩ => ?_
  subst he
  exact ⟨_, rfl, _, _, _, [], _, [], hW', trodAll_mk1 (shut_bool Try.underlying4 _), (trodAll_cons_mk (Below.trod laidOuts (by kernel_rfl) (of_decide_eq_true (by kernel_rfl)) h0 bel lt0) (trodAll_cons_mk (Below.trod laidOuts (by kernel_rfl) (of_decide_eq_true (by kernel_rfl)) h1 bel lt1) trodAll_mk0)), rfl, bel.frame _, fun h => by cases h⟩

theorem over : Rows.fnExactRunRingsRow.holds Try.pinned (OpenSpec.ofChange Rows.fnExactRunRingsSpec) :=
  OpenClaim.holds_of_wide 3 Try.f3 rfl rfl rfl rfl rfl rfl rfl ⟨rfl, rfl, rfl, rfl, rfl⟩ rfl rfl rfl rfl rfl (by kernel_rfl) Try.func3 (by kernel_rfl)
    (of_decide_eq_true (by kernel_rfl)) (by unfold Func.isWrapper; first | (rw [if_pos (by decide +kernel)]; kernel_rfl) | (rw [if_neg (by decide +kernel)]; exact ⟨rfl, rfl⟩))
    (fun os started H enc _ => lifted os started H enc)

theorem proved : Rows.FnExactRunRingsSaid := over
end Go.Proofs.Ytmkkkhlalacaiaa.fnExactRunRingsDone

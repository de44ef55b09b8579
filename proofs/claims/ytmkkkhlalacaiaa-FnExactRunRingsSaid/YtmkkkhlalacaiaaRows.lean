/-
  No cell of these rows narrows 'for every input' (looked for: loops, veiled, ifaces, maps, wideKeys, modest, calm, conditions, laid).
  DERIVED. THE GIVEN ROWS OF THIS SEAT. 4 by the template 'for every input the law returns true; each argument reads behind the call as it read before'; 0 by the template 'total and deterministic' (their statements: YtmkkkhlalacaiaaTotals.lean).
  GIVEN WITH THE SEED: the statements are not yours to turn. If you find one false, say at which input.
  Laid BY PROGRAM, IN A SANDBOX (cutbox-rows.mjs): the forced cells as the released guide's own fill.sh prints them over the translation 65cc5dd3699a1cac… (all of the seat's roots in one cut). By AI agents, Wed Nov 11 2026. No macro, syntax, notation, axiom, sorry.
-/
import Derived.Test.YtmkkkhlalacaiaaChecked
import GoSem.Claim
import GoSem.ClaimJoined
import GoSem.ClaimMapViews
import Derived.JoinedTies
import Derived.KernelRfl
namespace Go.Proofs.Ytmkkkhlalacaiaa
/- THE CELL 'sum', in the pinned program and in every row, IS THE sha256 OF THE DUMP (.gsa) THAT YtmkkkhlalacaiaaProg.lean LOADS. Nothing in Lean hashes anything: it is a label: what it is worth is what the hold of that sum in a sandbox is worth. -/
noncomputable def Try.pinned : Pinned := { name := "ytmkkkhlalacaiaa", sum := "65cc5dd3699a1cac65b617e9bd7c94fad092813b79f987a37f0352e52f404755", checked := Try.checked }
namespace Rows
def none {H : Type} : Left H := { results := [], args := [] }

/-- 'laws.FnExactRunRings': WHATEVER THE INPUT: true; the input reads as it did. -/
def fnExactRunRingsSpec : ChangeSpec := { name := "fnExactRunRings", fn := fun _ => fun
  | [d1, d2] => { results := [.lit (.bool true)], args := [d1, d2] }
  | _ => none }
def fnExactRunRingsRow : OpenClaim := { program := "ytmkkkhlalacaiaa", sum := "65cc5dd3699a1cac65b617e9bd7c94fad092813b79f987a37f0352e52f404755", func := "loop.example/lib-ringsandslices/laws.FnExactRunRings", spec := "fnExactRunRings", apart := false }
def FnExactRunRingsSaid : Prop := fnExactRunRingsRow.holds Try.pinned (OpenSpec.ofChange fnExactRunRingsSpec)

/-- ITS FALSE NEIGHBOUR: 'it returns false'. Refute it at one input. -/
def fnExactRunRingsWrong : ChangeSpec := { name := "fnExactRunRings", fn := fun _ => fun
  | [d1, d2] => { results := [.lit (.bool false)], args := [d1, d2] }
  | _ => none }
def FnExactRunRingsWrongFalsely : Prop := fnExactRunRingsRow.holds Try.pinned (OpenSpec.ofChange fnExactRunRingsWrong)

/-- 'laws.FnScriptLook': WHATEVER THE INPUT: true; the input reads as it did. -/
def fnScriptLookSpec : ChangeSpec := { name := "fnScriptLook", fn := fun _ => fun
  | [d] => { results := [.lit (.bool true)], args := [d] }
  | _ => none }
def fnScriptLookRow : OpenClaim := { program := "ytmkkkhlalacaiaa", sum := "65cc5dd3699a1cac65b617e9bd7c94fad092813b79f987a37f0352e52f404755", func := "loop.example/lib-ringsandslices/laws.FnScriptLook", spec := "fnScriptLook", apart := false }
def FnScriptLookSaid : Prop := fnScriptLookRow.holds Try.pinned (OpenSpec.ofChange fnScriptLookSpec)

/-- ITS FALSE NEIGHBOUR: 'it returns false'. Refute it at one input. -/
def fnScriptLookWrong : ChangeSpec := { name := "fnScriptLook", fn := fun _ => fun
  | [d] => { results := [.lit (.bool false)], args := [d] }
  | _ => none }
def FnScriptLookWrongFalsely : Prop := fnScriptLookRow.holds Try.pinned (OpenSpec.ofChange fnScriptLookWrong)

/-- 'laws.FnScriptOnce': WHATEVER THE INPUT: true; the input reads as it did. -/
def fnScriptOnceSpec : ChangeSpec := { name := "fnScriptOnce", fn := fun _ => fun
  | [d] => { results := [.lit (.bool true)], args := [d] }
  | _ => none }
def fnScriptOnceRow : OpenClaim := { program := "ytmkkkhlalacaiaa", sum := "65cc5dd3699a1cac65b617e9bd7c94fad092813b79f987a37f0352e52f404755", func := "loop.example/lib-ringsandslices/laws.FnScriptOnce", spec := "fnScriptOnce", apart := false }
def FnScriptOnceSaid : Prop := fnScriptOnceRow.holds Try.pinned (OpenSpec.ofChange fnScriptOnceSpec)

/-- ITS FALSE NEIGHBOUR: 'it returns false'. Refute it at one input. -/
def fnScriptOnceWrong : ChangeSpec := { name := "fnScriptOnce", fn := fun _ => fun
  | [d] => { results := [.lit (.bool false)], args := [d] }
  | _ => none }
def FnScriptOnceWrongFalsely : Prop := fnScriptOnceRow.holds Try.pinned (OpenSpec.ofChange fnScriptOnceWrong)

/-- 'laws.FnScriptTurned': WHATEVER THE INPUT: true; the input reads as it did. -/
def fnScriptTurnedSpec : ChangeSpec := { name := "fnScriptTurned", fn := fun _ => fun
  | [d] => { results := [.lit (.bool true)], args := [d] }
  | _ => none }
def fnScriptTurnedRow : OpenClaim := { program := "ytmkkkhlalacaiaa", sum := "65cc5dd3699a1cac65b617e9bd7c94fad092813b79f987a37f0352e52f404755", func := "loop.example/lib-ringsandslices/laws.FnScriptTurned", spec := "fnScriptTurned", apart := false }
def FnScriptTurnedSaid : Prop := fnScriptTurnedRow.holds Try.pinned (OpenSpec.ofChange fnScriptTurnedSpec)

/-- ITS FALSE NEIGHBOUR: 'it returns false'. Refute it at one input. -/
def fnScriptTurnedWrong : ChangeSpec := { name := "fnScriptTurned", fn := fun _ => fun
  | [d] => { results := [.lit (.bool false)], args := [d] }
  | _ => none }
def FnScriptTurnedWrongFalsely : Prop := fnScriptTurnedRow.holds Try.pinned (OpenSpec.ofChange fnScriptTurnedWrong)

/- THE SECOND FORM. 'bulk': how many values and letters a reading holds, each counted each time it is reached (what is shared counts as often as it is met; a slice's spare places count too). A statement '..UptoSaid' is the law's where the arguments, and the package variables that the reading takes, are together of bulk at most 1048576: NARROWER than '..Said'. Prove '..Said' where nothing that the law and all that it calls make is longer than what came in: it says more and counts as full. Else prove '..UptoSaid'. A law counts once. -/
mutual
def uptoBulk {H : Type} : DataW H → Nat
  | .lit (.string bytes) => bytes.length + 1
  | .lit _ => 1
  | .nil => 1
  | .ptr d => uptoBulk d + 1
  | .slice elems spare => uptoBulkAll elems + uptoBulkAll spare + 1
  | .agg parts => uptoBulkAll parts + 1
  | .iface _ d => uptoBulk d + 1
  | .map entries => uptoBulkEntries entries + 1
  | .held _ => 1
def uptoBulkAll {H : Type} : List (DataW H) → Nat
  | [] => 0
  | d :: r => uptoBulk d + uptoBulkAll r
def uptoBulkEntries {H : Type} : List (Lit × DataW H) → Nat
  | [] => 0
  | x :: r => uptoBulkEntry x + uptoBulkEntries r
def uptoBulkEntry {H : Type} : Lit × DataW H → Nat
  | (.string bytes, d) => bytes.length + uptoBulk d + 1
  | (_, d) => uptoBulk d + 1
 end
def uptoSmall : (H : Type) → List (DataW H) → Bool := fun _ ds => decide (uptoBulkAll ds ≤ 1048576)
def OpenSpec.upto (s : _root_.Go.ChangeSpec) : _root_.Go.OpenSpec := { _root_.Go.OpenSpec.ofChange s with cond := some uptoSmall }

/-- 'laws.FnExactRunRings', WHERE WHAT IT READS IS OF BULK AT MOST 1048576: true; the input reads as it did. -/
def fnExactRunRingsUptoRow : OpenClaim := { program := "ytmkkkhlalacaiaa", sum := "65cc5dd3699a1cac65b617e9bd7c94fad092813b79f987a37f0352e52f404755", func := "loop.example/lib-ringsandslices/laws.FnExactRunRings", spec := "fnExactRunRings", apart := false, narrowed := true }
def FnExactRunRingsUptoSaid : Prop := fnExactRunRingsUptoRow.holds Try.pinned (OpenSpec.upto fnExactRunRingsSpec)

/-- 'laws.FnScriptLook', WHERE WHAT IT READS IS OF BULK AT MOST 1048576: true; the input reads as it did. -/
def fnScriptLookUptoRow : OpenClaim := { program := "ytmkkkhlalacaiaa", sum := "65cc5dd3699a1cac65b617e9bd7c94fad092813b79f987a37f0352e52f404755", func := "loop.example/lib-ringsandslices/laws.FnScriptLook", spec := "fnScriptLook", apart := false, narrowed := true }
def FnScriptLookUptoSaid : Prop := fnScriptLookUptoRow.holds Try.pinned (OpenSpec.upto fnScriptLookSpec)

/-- 'laws.FnScriptOnce', WHERE WHAT IT READS IS OF BULK AT MOST 1048576: true; the input reads as it did. -/
def fnScriptOnceUptoRow : OpenClaim := { program := "ytmkkkhlalacaiaa", sum := "65cc5dd3699a1cac65b617e9bd7c94fad092813b79f987a37f0352e52f404755", func := "loop.example/lib-ringsandslices/laws.FnScriptOnce", spec := "fnScriptOnce", apart := false, narrowed := true }
def FnScriptOnceUptoSaid : Prop := fnScriptOnceUptoRow.holds Try.pinned (OpenSpec.upto fnScriptOnceSpec)

/-- 'laws.FnScriptTurned', WHERE WHAT IT READS IS OF BULK AT MOST 1048576: true; the input reads as it did. -/
def fnScriptTurnedUptoRow : OpenClaim := { program := "ytmkkkhlalacaiaa", sum := "65cc5dd3699a1cac65b617e9bd7c94fad092813b79f987a37f0352e52f404755", func := "loop.example/lib-ringsandslices/laws.FnScriptTurned", spec := "fnScriptTurned", apart := false, narrowed := true }
def FnScriptTurnedUptoSaid : Prop := fnScriptTurnedUptoRow.holds Try.pinned (OpenSpec.upto fnScriptTurnedSpec)

end Rows
end Go.Proofs.Ytmkkkhlalacaiaa

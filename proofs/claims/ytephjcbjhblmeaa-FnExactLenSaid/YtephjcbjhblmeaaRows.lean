/-
  No cell of these rows narrows 'for every input' (looked for: loops, veiled, ifaces, maps, wideKeys, modest, calm, conditions, laid).
  DERIVED. THE GIVEN ROWS OF THIS SEAT. 9 by the template 'for every input the law returns true; each argument reads behind the call as it read before'; 0 by the template 'total and deterministic' (their statements: YtephjcbjhblmeaaTotals.lean).
  GIVEN WITH THE SEED: the statements are not yours to turn. If you find one false, say at which input.
  Laid BY PROGRAM, IN A SANDBOX (cutbox-rows.mjs): the forced cells as the released guide's own fill.sh prints them over the translation e9e4e06bcafaf5bd… (all of the seat's roots in one cut). By AI agents, Wed Nov 11 2026. No macro, syntax, notation, axiom, sorry.
-/
import Derived.Test.YtephjcbjhblmeaaChecked
import GoSem.Claim
import GoSem.ClaimJoined
import GoSem.ClaimMapViews
import Derived.JoinedTies
import Derived.KernelRfl
namespace Go.Proofs.Ytephjcbjhblmeaa
/- THE CELL 'sum', in the pinned program and in every row, IS THE sha256 OF THE DUMP (.gsa) THAT YtephjcbjhblmeaaProg.lean LOADS. Nothing in Lean hashes anything: it is a label: what it is worth is what the hold of that sum in a sandbox is worth. -/
noncomputable def Try.pinned : Pinned := { name := "ytephjcbjhblmeaa", sum := "e9e4e06bcafaf5bd602151c33d18a98ad258a7c1c452352db6344e79f42b1269", checked := Try.checked }
namespace Rows
def none {H : Type} : Left H := { results := [], args := [] }

/-- 'laws.FnExactNewLen': WHATEVER THE INPUT: true; the input reads as it did. -/
def fnExactNewLenSpec : ChangeSpec := { name := "fnExactNewLen", fn := fun _ => fun
  | [d] => { results := [.lit (.bool true)], args := [d] }
  | _ => none }
def fnExactNewLenRow : OpenClaim := { program := "ytephjcbjhblmeaa", sum := "e9e4e06bcafaf5bd602151c33d18a98ad258a7c1c452352db6344e79f42b1269", func := "loop.example/lib-ringsandslices/laws.FnExactNewLen", spec := "fnExactNewLen", apart := false }
def FnExactNewLenSaid : Prop := fnExactNewLenRow.holds Try.pinned (OpenSpec.ofChange fnExactNewLenSpec)

/-- ITS FALSE NEIGHBOUR: 'it returns false'. Refute it at one input. -/
def fnExactNewLenWrong : ChangeSpec := { name := "fnExactNewLen", fn := fun _ => fun
  | [d] => { results := [.lit (.bool false)], args := [d] }
  | _ => none }
def FnExactNewLenWrongFalsely : Prop := fnExactNewLenRow.holds Try.pinned (OpenSpec.ofChange fnExactNewLenWrong)

/-- 'laws.FnExactNewNone': WHATEVER THE INPUT: true; the input reads as it did. -/
def fnExactNewNoneSpec : ChangeSpec := { name := "fnExactNewNone", fn := fun _ => fun
  | [d] => { results := [.lit (.bool true)], args := [d] }
  | _ => none }
def fnExactNewNoneRow : OpenClaim := { program := "ytephjcbjhblmeaa", sum := "e9e4e06bcafaf5bd602151c33d18a98ad258a7c1c452352db6344e79f42b1269", func := "loop.example/lib-ringsandslices/laws.FnExactNewNone", spec := "fnExactNewNone", apart := false }
def FnExactNewNoneSaid : Prop := fnExactNewNoneRow.holds Try.pinned (OpenSpec.ofChange fnExactNewNoneSpec)

/-- ITS FALSE NEIGHBOUR: 'it returns false'. Refute it at one input. -/
def fnExactNewNoneWrong : ChangeSpec := { name := "fnExactNewNone", fn := fun _ => fun
  | [d] => { results := [.lit (.bool false)], args := [d] }
  | _ => none }
def FnExactNewNoneWrongFalsely : Prop := fnExactNewNoneRow.holds Try.pinned (OpenSpec.ofChange fnExactNewNoneWrong)

/-- 'laws.FnExactNewDo': WHATEVER THE INPUT: true; the input reads as it did. -/
def fnExactNewDoSpec : ChangeSpec := { name := "fnExactNewDo", fn := fun _ => fun
  | [d] => { results := [.lit (.bool true)], args := [d] }
  | _ => none }
def fnExactNewDoRow : OpenClaim := { program := "ytephjcbjhblmeaa", sum := "e9e4e06bcafaf5bd602151c33d18a98ad258a7c1c452352db6344e79f42b1269", func := "loop.example/lib-ringsandslices/laws.FnExactNewDo", spec := "fnExactNewDo", unfollowed := true, recurses := true, apart := false }
def FnExactNewDoSaid : Prop := fnExactNewDoRow.holds Try.pinned (OpenSpec.ofChange fnExactNewDoSpec)

/-- ITS FALSE NEIGHBOUR: 'it returns false'. Refute it at one input. -/
def fnExactNewDoWrong : ChangeSpec := { name := "fnExactNewDo", fn := fun _ => fun
  | [d] => { results := [.lit (.bool false)], args := [d] }
  | _ => none }
def FnExactNewDoWrongFalsely : Prop := fnExactNewDoRow.holds Try.pinned (OpenSpec.ofChange fnExactNewDoWrong)

/-- 'laws.FnExactLen': WHATEVER THE INPUT: true; the input reads as it did. -/
def fnExactLenSpec : ChangeSpec := { name := "fnExactLen", fn := fun _ => fun
  | [d1, d2] => { results := [.lit (.bool true)], args := [d1, d2] }
  | _ => none }
def fnExactLenRow : OpenClaim := { program := "ytephjcbjhblmeaa", sum := "e9e4e06bcafaf5bd602151c33d18a98ad258a7c1c452352db6344e79f42b1269", func := "loop.example/lib-ringsandslices/laws.FnExactLen", spec := "fnExactLen", apart := false }
def FnExactLenSaid : Prop := fnExactLenRow.holds Try.pinned (OpenSpec.ofChange fnExactLenSpec)

/-- ITS FALSE NEIGHBOUR: 'it returns false'. Refute it at one input. -/
def fnExactLenWrong : ChangeSpec := { name := "fnExactLen", fn := fun _ => fun
  | [d1, d2] => { results := [.lit (.bool false)], args := [d1, d2] }
  | _ => none }
def FnExactLenWrongFalsely : Prop := fnExactLenRow.holds Try.pinned (OpenSpec.ofChange fnExactLenWrong)

/-- 'laws.FnExactNext': WHATEVER THE INPUT: true; the input reads as it did. -/
def fnExactNextSpec : ChangeSpec := { name := "fnExactNext", fn := fun _ => fun
  | [d1, d2] => { results := [.lit (.bool true)], args := [d1, d2] }
  | _ => none }
def fnExactNextRow : OpenClaim := { program := "ytephjcbjhblmeaa", sum := "e9e4e06bcafaf5bd602151c33d18a98ad258a7c1c452352db6344e79f42b1269", func := "loop.example/lib-ringsandslices/laws.FnExactNext", spec := "fnExactNext", apart := false }
def FnExactNextSaid : Prop := fnExactNextRow.holds Try.pinned (OpenSpec.ofChange fnExactNextSpec)

/-- ITS FALSE NEIGHBOUR: 'it returns false'. Refute it at one input. -/
def fnExactNextWrong : ChangeSpec := { name := "fnExactNext", fn := fun _ => fun
  | [d1, d2] => { results := [.lit (.bool false)], args := [d1, d2] }
  | _ => none }
def FnExactNextWrongFalsely : Prop := fnExactNextRow.holds Try.pinned (OpenSpec.ofChange fnExactNextWrong)

/-- 'laws.FnExactPrev': WHATEVER THE INPUT: true; the input reads as it did. -/
def fnExactPrevSpec : ChangeSpec := { name := "fnExactPrev", fn := fun _ => fun
  | [d1, d2] => { results := [.lit (.bool true)], args := [d1, d2] }
  | _ => none }
def fnExactPrevRow : OpenClaim := { program := "ytephjcbjhblmeaa", sum := "e9e4e06bcafaf5bd602151c33d18a98ad258a7c1c452352db6344e79f42b1269", func := "loop.example/lib-ringsandslices/laws.FnExactPrev", spec := "fnExactPrev", apart := false }
def FnExactPrevSaid : Prop := fnExactPrevRow.holds Try.pinned (OpenSpec.ofChange fnExactPrevSpec)

/-- ITS FALSE NEIGHBOUR: 'it returns false'. Refute it at one input. -/
def fnExactPrevWrong : ChangeSpec := { name := "fnExactPrev", fn := fun _ => fun
  | [d1, d2] => { results := [.lit (.bool false)], args := [d1, d2] }
  | _ => none }
def FnExactPrevWrongFalsely : Prop := fnExactPrevRow.holds Try.pinned (OpenSpec.ofChange fnExactPrevWrong)

/-- 'laws.FnExactDo': WHATEVER THE INPUT: true; the input reads as it did. -/
def fnExactDoSpec : ChangeSpec := { name := "fnExactDo", fn := fun _ => fun
  | [d1, d2] => { results := [.lit (.bool true)], args := [d1, d2] }
  | _ => none }
def fnExactDoRow : OpenClaim := { program := "ytephjcbjhblmeaa", sum := "e9e4e06bcafaf5bd602151c33d18a98ad258a7c1c452352db6344e79f42b1269", func := "loop.example/lib-ringsandslices/laws.FnExactDo", spec := "fnExactDo", unfollowed := true, recurses := true, apart := false }
def FnExactDoSaid : Prop := fnExactDoRow.holds Try.pinned (OpenSpec.ofChange fnExactDoSpec)

/-- ITS FALSE NEIGHBOUR: 'it returns false'. Refute it at one input. -/
def fnExactDoWrong : ChangeSpec := { name := "fnExactDo", fn := fun _ => fun
  | [d1, d2] => { results := [.lit (.bool false)], args := [d1, d2] }
  | _ => none }
def FnExactDoWrongFalsely : Prop := fnExactDoRow.holds Try.pinned (OpenSpec.ofChange fnExactDoWrong)

/-- 'laws.FnExactDoRing': WHATEVER THE INPUT: true; the input reads as it did. -/
def fnExactDoRingSpec : ChangeSpec := { name := "fnExactDoRing", fn := fun _ => fun
  | [d1, d2] => { results := [.lit (.bool true)], args := [d1, d2] }
  | _ => none }
def fnExactDoRingRow : OpenClaim := { program := "ytephjcbjhblmeaa", sum := "e9e4e06bcafaf5bd602151c33d18a98ad258a7c1c452352db6344e79f42b1269", func := "loop.example/lib-ringsandslices/laws.FnExactDoRing", spec := "fnExactDoRing", unfollowed := true, recurses := true, apart := false }
def FnExactDoRingSaid : Prop := fnExactDoRingRow.holds Try.pinned (OpenSpec.ofChange fnExactDoRingSpec)

/-- ITS FALSE NEIGHBOUR: 'it returns false'. Refute it at one input. -/
def fnExactDoRingWrong : ChangeSpec := { name := "fnExactDoRing", fn := fun _ => fun
  | [d1, d2] => { results := [.lit (.bool false)], args := [d1, d2] }
  | _ => none }
def FnExactDoRingWrongFalsely : Prop := fnExactDoRingRow.holds Try.pinned (OpenSpec.ofChange fnExactDoRingWrong)

/-- 'laws.FnExactMove': WHATEVER THE INPUT: true; the input reads as it did. -/
def fnExactMoveSpec : ChangeSpec := { name := "fnExactMove", fn := fun _ => fun
  | [d1, d2, d3] => { results := [.lit (.bool true)], args := [d1, d2, d3] }
  | _ => none }
def fnExactMoveRow : OpenClaim := { program := "ytephjcbjhblmeaa", sum := "e9e4e06bcafaf5bd602151c33d18a98ad258a7c1c452352db6344e79f42b1269", func := "loop.example/lib-ringsandslices/laws.FnExactMove", spec := "fnExactMove", apart := false }
def FnExactMoveSaid : Prop := fnExactMoveRow.holds Try.pinned (OpenSpec.ofChange fnExactMoveSpec)

/-- ITS FALSE NEIGHBOUR: 'it returns false'. Refute it at one input. -/
def fnExactMoveWrong : ChangeSpec := { name := "fnExactMove", fn := fun _ => fun
  | [d1, d2, d3] => { results := [.lit (.bool false)], args := [d1, d2, d3] }
  | _ => none }
def FnExactMoveWrongFalsely : Prop := fnExactMoveRow.holds Try.pinned (OpenSpec.ofChange fnExactMoveWrong)

/- THE SECOND FORM. 'bulk': how many values and letters a reading holds, each counted each time it is reached (what is shared counts as often as it is met; a slice's spare places count too). A statement '..UptoSaid' is the law's where the arguments, and the package variables that the reading takes, are together of bulk at most 1048576: NARROWER than '..Said'. Prove '..Said' where nothing that the law and all that it calls make is longer than what came in: it says more and counts as full. Else prove '..UptoSaid'. A law counts once. -/
mutual
def uptoBulk {H : Type} : DataW H → Nat
  | .lit (.string bytes) => bytes.length + 1
  | .lit _ => 1
  | .nil => 1
  | .ptr d => uptoBulk d + 1
  | .slice elems spare => uptoBulkAll elems + uptoBulkAll spare + 1
  | .agg parts => uptoBulkAll parts + 1
  | .iface _ d => uptoBulk d + 1
  | .map entries => uptoBulkEntries entries + 1
  | .held _ => 1
def uptoBulkAll {H : Type} : List (DataW H) → Nat
  | [] => 0
  | d :: r => uptoBulk d + uptoBulkAll r
def uptoBulkEntries {H : Type} : List (Lit × DataW H) → Nat
  | [] => 0
  | x :: r => uptoBulkEntry x + uptoBulkEntries r
def uptoBulkEntry {H : Type} : Lit × DataW H → Nat
  | (.string bytes, d) => bytes.length + uptoBulk d + 1
  | (_, d) => uptoBulk d + 1
 end
def uptoSmall : (H : Type) → List (DataW H) → Bool := fun _ ds => decide (uptoBulkAll ds ≤ 1048576)
def OpenSpec.upto (s : _root_.Go.ChangeSpec) : _root_.Go.OpenSpec := { _root_.Go.OpenSpec.ofChange s with cond := some uptoSmall }

/-- 'laws.FnExactNewLen', WHERE WHAT IT READS IS OF BULK AT MOST 1048576: true; the input reads as it did. -/
def fnExactNewLenUptoRow : OpenClaim := { program := "ytephjcbjhblmeaa", sum := "e9e4e06bcafaf5bd602151c33d18a98ad258a7c1c452352db6344e79f42b1269", func := "loop.example/lib-ringsandslices/laws.FnExactNewLen", spec := "fnExactNewLen", apart := false, narrowed := true }
def FnExactNewLenUptoSaid : Prop := fnExactNewLenUptoRow.holds Try.pinned (OpenSpec.upto fnExactNewLenSpec)

/-- 'laws.FnExactNewNone', WHERE WHAT IT READS IS OF BULK AT MOST 1048576: true; the input reads as it did. -/
def fnExactNewNoneUptoRow : OpenClaim := { program := "ytephjcbjhblmeaa", sum := "e9e4e06bcafaf5bd602151c33d18a98ad258a7c1c452352db6344e79f42b1269", func := "loop.example/lib-ringsandslices/laws.FnExactNewNone", spec := "fnExactNewNone", apart := false, narrowed := true }
def FnExactNewNoneUptoSaid : Prop := fnExactNewNoneUptoRow.holds Try.pinned (OpenSpec.upto fnExactNewNoneSpec)

/-- 'laws.FnExactNewDo', WHERE WHAT IT READS IS OF BULK AT MOST 1048576: true; the input reads as it did. -/
def fnExactNewDoUptoRow : OpenClaim := { program := "ytephjcbjhblmeaa", sum := "e9e4e06bcafaf5bd602151c33d18a98ad258a7c1c452352db6344e79f42b1269", func := "loop.example/lib-ringsandslices/laws.FnExactNewDo", spec := "fnExactNewDo", unfollowed := true, recurses := true, apart := false, narrowed := true }
def FnExactNewDoUptoSaid : Prop := fnExactNewDoUptoRow.holds Try.pinned (OpenSpec.upto fnExactNewDoSpec)

/-- 'laws.FnExactLen', WHERE WHAT IT READS IS OF BULK AT MOST 1048576: true; the input reads as it did. -/
def fnExactLenUptoRow : OpenClaim := { program := "ytephjcbjhblmeaa", sum := "e9e4e06bcafaf5bd602151c33d18a98ad258a7c1c452352db6344e79f42b1269", func := "loop.example/lib-ringsandslices/laws.FnExactLen", spec := "fnExactLen", apart := false, narrowed := true }
def FnExactLenUptoSaid : Prop := fnExactLenUptoRow.holds Try.pinned (OpenSpec.upto fnExactLenSpec)

/-- 'laws.FnExactNext', WHERE WHAT IT READS IS OF BULK AT MOST 1048576: true; the input reads as it did. -/
def fnExactNextUptoRow : OpenClaim := { program := "ytephjcbjhblmeaa", sum := "e9e4e06bcafaf5bd602151c33d18a98ad258a7c1c452352db6344e79f42b1269", func := "loop.example/lib-ringsandslices/laws.FnExactNext", spec := "fnExactNext", apart := false, narrowed := true }
def FnExactNextUptoSaid : Prop := fnExactNextUptoRow.holds Try.pinned (OpenSpec.upto fnExactNextSpec)

/-- 'laws.FnExactPrev', WHERE WHAT IT READS IS OF BULK AT MOST 1048576: true; the input reads as it did. -/
def fnExactPrevUptoRow : OpenClaim := { program := "ytephjcbjhblmeaa", sum := "e9e4e06bcafaf5bd602151c33d18a98ad258a7c1c452352db6344e79f42b1269", func := "loop.example/lib-ringsandslices/laws.FnExactPrev", spec := "fnExactPrev", apart := false, narrowed := true }
def FnExactPrevUptoSaid : Prop := fnExactPrevUptoRow.holds Try.pinned (OpenSpec.upto fnExactPrevSpec)

/-- 'laws.FnExactDo', WHERE WHAT IT READS IS OF BULK AT MOST 1048576: true; the input reads as it did. -/
def fnExactDoUptoRow : OpenClaim := { program := "ytephjcbjhblmeaa", sum := "e9e4e06bcafaf5bd602151c33d18a98ad258a7c1c452352db6344e79f42b1269", func := "loop.example/lib-ringsandslices/laws.FnExactDo", spec := "fnExactDo", unfollowed := true, recurses := true, apart := false, narrowed := true }
def FnExactDoUptoSaid : Prop := fnExactDoUptoRow.holds Try.pinned (OpenSpec.upto fnExactDoSpec)

/-- 'laws.FnExactDoRing', WHERE WHAT IT READS IS OF BULK AT MOST 1048576: true; the input reads as it did. -/
def fnExactDoRingUptoRow : OpenClaim := { program := "ytephjcbjhblmeaa", sum := "e9e4e06bcafaf5bd602151c33d18a98ad258a7c1c452352db6344e79f42b1269", func := "loop.example/lib-ringsandslices/laws.FnExactDoRing", spec := "fnExactDoRing", unfollowed := true, recurses := true, apart := false, narrowed := true }
def FnExactDoRingUptoSaid : Prop := fnExactDoRingUptoRow.holds Try.pinned (OpenSpec.upto fnExactDoRingSpec)

/-- 'laws.FnExactMove', WHERE WHAT IT READS IS OF BULK AT MOST 1048576: true; the input reads as it did. -/
def fnExactMoveUptoRow : OpenClaim := { program := "ytephjcbjhblmeaa", sum := "e9e4e06bcafaf5bd602151c33d18a98ad258a7c1c452352db6344e79f42b1269", func := "loop.example/lib-ringsandslices/laws.FnExactMove", spec := "fnExactMove", apart := false, narrowed := true }
def FnExactMoveUptoSaid : Prop := fnExactMoveUptoRow.holds Try.pinned (OpenSpec.upto fnExactMoveSpec)

end Rows
end Go.Proofs.Ytephjcbjhblmeaa

/-
  No cell of these rows narrows 'for every input' (looked for: loops, veiled, ifaces, maps, wideKeys, modest, calm, conditions, laid).
  DERIVED. THE GIVEN ROWS OF THIS SEAT. 8 by the template 'for every input the law returns true; each argument reads behind the call as it read before'; 0 by the template 'total and deterministic' (their statements: YtbkclmkncenaeaaTotals.lean).
  GIVEN WITH THE SEED: the statements are not yours to turn. If you find one false, say at which input.
  Laid BY PROGRAM, IN A SANDBOX (cutbox-rows.mjs): the forced cells as the released guide's own fill.sh prints them over the translation 5a9d5ea9c95a8ccd… (all of the seat's roots in one cut). By AI agents, Wed Nov 11 2026. No macro, syntax, notation, axiom, sorry.
-/
import Derived.Test.YtbkclmkncenaeaaChecked
import GoSem.Claim
import GoSem.ClaimJoined
import GoSem.ClaimMapViews
import Derived.JoinedTies
import Derived.KernelRfl
namespace Go.Proofs.Ytbkclmkncenaeaa
/- THE CELL 'sum', in the pinned program and in every row, IS THE sha256 OF THE DUMP (.gsa) THAT YtbkclmkncenaeaaProg.lean LOADS. Nothing in Lean hashes anything: it is a label: what it is worth is what the hold of that sum in a sandbox is worth. -/
noncomputable def Try.pinned : Pinned := { name := "ytbkclmkncenaeaa", sum := "5a9d5ea9c95a8ccd6ef907a8032f8cafd2196a502f96fb4e1a9a0ad677cf1133", checked := Try.checked }
namespace Rows
def none {H : Type} : Left H := { results := [], args := [] }

/-- 'laws.FnUnlinkRoad': WHATEVER THE INPUT: true; the input reads as it did. -/
def fnUnlinkRoadSpec : ChangeSpec := { name := "fnUnlinkRoad", fn := fun _ => fun
  | [d] => { results := [.lit (.bool true)], args := [d] }
  | _ => none }
def fnUnlinkRoadRow : OpenClaim := { program := "ytbkclmkncenaeaa", sum := "5a9d5ea9c95a8ccd6ef907a8032f8cafd2196a502f96fb4e1a9a0ad677cf1133", func := "loop.example/lib-ringsandslices/laws.FnUnlinkRoad", spec := "fnUnlinkRoad", apart := false }
def FnUnlinkRoadSaid : Prop := fnUnlinkRoadRow.holds Try.pinned (OpenSpec.ofChange fnUnlinkRoadSpec)

/-- ITS FALSE NEIGHBOUR: 'it returns false'. Refute it at one input. -/
def fnUnlinkRoadWrong : ChangeSpec := { name := "fnUnlinkRoad", fn := fun _ => fun
  | [d] => { results := [.lit (.bool false)], args := [d] }
  | _ => none }
def FnUnlinkRoadWrongFalsely : Prop := fnUnlinkRoadRow.holds Try.pinned (OpenSpec.ofChange fnUnlinkRoadWrong)

/-- 'laws.FnLinkTwice': WHATEVER THE INPUT: true; the input reads as it did. -/
def fnLinkTwiceSpec : ChangeSpec := { name := "fnLinkTwice", fn := fun _ => fun
  | [d] => { results := [.lit (.bool true)], args := [d] }
  | _ => none }
def fnLinkTwiceRow : OpenClaim := { program := "ytbkclmkncenaeaa", sum := "5a9d5ea9c95a8ccd6ef907a8032f8cafd2196a502f96fb4e1a9a0ad677cf1133", func := "loop.example/lib-ringsandslices/laws.FnLinkTwice", spec := "fnLinkTwice", apart := false }
def FnLinkTwiceSaid : Prop := fnLinkTwiceRow.holds Try.pinned (OpenSpec.ofChange fnLinkTwiceSpec)

/-- ITS FALSE NEIGHBOUR: 'it returns false'. Refute it at one input. -/
def fnLinkTwiceWrong : ChangeSpec := { name := "fnLinkTwice", fn := fun _ => fun
  | [d] => { results := [.lit (.bool false)], args := [d] }
  | _ => none }
def FnLinkTwiceWrongFalsely : Prop := fnLinkTwiceRow.holds Try.pinned (OpenSpec.ofChange fnLinkTwiceWrong)

/-- 'laws.FnUnlinkLink': WHATEVER THE INPUT: true; the input reads as it did. -/
def fnUnlinkLinkSpec : ChangeSpec := { name := "fnUnlinkLink", fn := fun _ => fun
  | [d] => { results := [.lit (.bool true)], args := [d] }
  | _ => none }
def fnUnlinkLinkRow : OpenClaim := { program := "ytbkclmkncenaeaa", sum := "5a9d5ea9c95a8ccd6ef907a8032f8cafd2196a502f96fb4e1a9a0ad677cf1133", func := "loop.example/lib-ringsandslices/laws.FnUnlinkLink", spec := "fnUnlinkLink", unfollowed := true, recurses := true, apart := false }
def FnUnlinkLinkSaid : Prop := fnUnlinkLinkRow.holds Try.pinned (OpenSpec.ofChange fnUnlinkLinkSpec)

/-- ITS FALSE NEIGHBOUR: 'it returns false'. Refute it at one input. -/
def fnUnlinkLinkWrong : ChangeSpec := { name := "fnUnlinkLink", fn := fun _ => fun
  | [d] => { results := [.lit (.bool false)], args := [d] }
  | _ => none }
def FnUnlinkLinkWrongFalsely : Prop := fnUnlinkLinkRow.holds Try.pinned (OpenSpec.ofChange fnUnlinkLinkWrong)

/-- 'laws.FnExactLink': WHATEVER THE INPUT: true; the input reads as it did. -/
def fnExactLinkSpec : ChangeSpec := { name := "fnExactLink", fn := fun _ => fun
  | [d1, d2, d3] => { results := [.lit (.bool true)], args := [d1, d2, d3] }
  | _ => none }
def fnExactLinkRow : OpenClaim := { program := "ytbkclmkncenaeaa", sum := "5a9d5ea9c95a8ccd6ef907a8032f8cafd2196a502f96fb4e1a9a0ad677cf1133", func := "loop.example/lib-ringsandslices/laws.FnExactLink", spec := "fnExactLink", apart := false }
def FnExactLinkSaid : Prop := fnExactLinkRow.holds Try.pinned (OpenSpec.ofChange fnExactLinkSpec)

/-- ITS FALSE NEIGHBOUR: 'it returns false'. Refute it at one input. -/
def fnExactLinkWrong : ChangeSpec := { name := "fnExactLink", fn := fun _ => fun
  | [d1, d2, d3] => { results := [.lit (.bool false)], args := [d1, d2, d3] }
  | _ => none }
def FnExactLinkWrongFalsely : Prop := fnExactLinkRow.holds Try.pinned (OpenSpec.ofChange fnExactLinkWrong)

/-- 'laws.FnExactUnlink': WHATEVER THE INPUT: true; the input reads as it did. -/
def fnExactUnlinkSpec : ChangeSpec := { name := "fnExactUnlink", fn := fun _ => fun
  | [d1, d2, d3] => { results := [.lit (.bool true)], args := [d1, d2, d3] }
  | _ => none }
def fnExactUnlinkRow : OpenClaim := { program := "ytbkclmkncenaeaa", sum := "5a9d5ea9c95a8ccd6ef907a8032f8cafd2196a502f96fb4e1a9a0ad677cf1133", func := "loop.example/lib-ringsandslices/laws.FnExactUnlink", spec := "fnExactUnlink", apart := false }
def FnExactUnlinkSaid : Prop := fnExactUnlinkRow.holds Try.pinned (OpenSpec.ofChange fnExactUnlinkSpec)

/-- ITS FALSE NEIGHBOUR: 'it returns false'. Refute it at one input. -/
def fnExactUnlinkWrong : ChangeSpec := { name := "fnExactUnlink", fn := fun _ => fun
  | [d1, d2, d3] => { results := [.lit (.bool false)], args := [d1, d2, d3] }
  | _ => none }
def FnExactUnlinkWrongFalsely : Prop := fnExactUnlinkRow.holds Try.pinned (OpenSpec.ofChange fnExactUnlinkWrong)

/-- 'laws.FnExactUnlinkRing': WHATEVER THE INPUT: true; the input reads as it did. -/
def fnExactUnlinkRingSpec : ChangeSpec := { name := "fnExactUnlinkRing", fn := fun _ => fun
  | [d1, d2, d3] => { results := [.lit (.bool true)], args := [d1, d2, d3] }
  | _ => none }
def fnExactUnlinkRingRow : OpenClaim := { program := "ytbkclmkncenaeaa", sum := "5a9d5ea9c95a8ccd6ef907a8032f8cafd2196a502f96fb4e1a9a0ad677cf1133", func := "loop.example/lib-ringsandslices/laws.FnExactUnlinkRing", spec := "fnExactUnlinkRing", apart := false }
def FnExactUnlinkRingSaid : Prop := fnExactUnlinkRingRow.holds Try.pinned (OpenSpec.ofChange fnExactUnlinkRingSpec)

/-- ITS FALSE NEIGHBOUR: 'it returns false'. Refute it at one input. -/
def fnExactUnlinkRingWrong : ChangeSpec := { name := "fnExactUnlinkRing", fn := fun _ => fun
  | [d1, d2, d3] => { results := [.lit (.bool false)], args := [d1, d2, d3] }
  | _ => none }
def FnExactUnlinkRingWrongFalsely : Prop := fnExactUnlinkRingRow.holds Try.pinned (OpenSpec.ofChange fnExactUnlinkRingWrong)

/-- 'laws.FnExactUnlinkZero': WHATEVER THE INPUT: true; the input reads as it did. -/
def fnExactUnlinkZeroSpec : ChangeSpec := { name := "fnExactUnlinkZero", fn := fun _ => fun
  | [d1, d2] => { results := [.lit (.bool true)], args := [d1, d2] }
  | _ => none }
def fnExactUnlinkZeroRow : OpenClaim := { program := "ytbkclmkncenaeaa", sum := "5a9d5ea9c95a8ccd6ef907a8032f8cafd2196a502f96fb4e1a9a0ad677cf1133", func := "loop.example/lib-ringsandslices/laws.FnExactUnlinkZero", spec := "fnExactUnlinkZero", apart := false }
def FnExactUnlinkZeroSaid : Prop := fnExactUnlinkZeroRow.holds Try.pinned (OpenSpec.ofChange fnExactUnlinkZeroSpec)

/-- ITS FALSE NEIGHBOUR: 'it returns false'. Refute it at one input. -/
def fnExactUnlinkZeroWrong : ChangeSpec := { name := "fnExactUnlinkZero", fn := fun _ => fun
  | [d1, d2] => { results := [.lit (.bool false)], args := [d1, d2] }
  | _ => none }
def FnExactUnlinkZeroWrongFalsely : Prop := fnExactUnlinkZeroRow.holds Try.pinned (OpenSpec.ofChange fnExactUnlinkZeroWrong)

/-- 'laws.FnLinkLen': WHATEVER THE INPUT: true; the input reads as it did. -/
def fnLinkLenSpec : ChangeSpec := { name := "fnLinkLen", fn := fun _ => fun
  | [d] => { results := [.lit (.bool true)], args := [d] }
  | _ => none }
def fnLinkLenRow : OpenClaim := { program := "ytbkclmkncenaeaa", sum := "5a9d5ea9c95a8ccd6ef907a8032f8cafd2196a502f96fb4e1a9a0ad677cf1133", func := "loop.example/lib-ringsandslices/laws.FnLinkLen", spec := "fnLinkLen", unfollowed := true, recurses := true, apart := false }
def FnLinkLenSaid : Prop := fnLinkLenRow.holds Try.pinned (OpenSpec.ofChange fnLinkLenSpec)

/-- ITS FALSE NEIGHBOUR: 'it returns false'. Refute it at one input. -/
def fnLinkLenWrong : ChangeSpec := { name := "fnLinkLen", fn := fun _ => fun
  | [d] => { results := [.lit (.bool false)], args := [d] }
  | _ => none }
def FnLinkLenWrongFalsely : Prop := fnLinkLenRow.holds Try.pinned (OpenSpec.ofChange fnLinkLenWrong)

/- THE SECOND FORM. 'bulk': how many values and letters a reading holds, each counted each time it is reached (what is shared counts as often as it is met; a slice's spare places count too). A statement '..UptoSaid' is the law's where the arguments, and the package variables that the reading takes, are together of bulk at most 1048576: NARROWER than '..Said'. Prove '..Said' where nothing that the law and all that it calls make is longer than what came in: it says more and counts as full. Else prove '..UptoSaid'. A law counts once. -/
mutual
def uptoBulk {H : Type} : DataW H → Nat
  | .lit (.string bytes) => bytes.length + 1
  | .lit _ => 1
  | .nil => 1
  | .ptr d => uptoBulk d + 1
  | .slice elems spare => uptoBulkAll elems + uptoBulkAll spare + 1
  | .agg parts => uptoBulkAll parts + 1
  | .iface _ d => uptoBulk d + 1
  | .map entries => uptoBulkEntries entries + 1
  | .held _ => 1
def uptoBulkAll {H : Type} : List (DataW H) → Nat
  | [] => 0
  | d :: r => uptoBulk d + uptoBulkAll r
def uptoBulkEntries {H : Type} : List (Lit × DataW H) → Nat
  | [] => 0
  | x :: r => uptoBulkEntry x + uptoBulkEntries r
def uptoBulkEntry {H : Type} : Lit × DataW H → Nat
  | (.string bytes, d) => bytes.length + uptoBulk d + 1
  | (_, d) => uptoBulk d + 1
 end
def uptoSmall : (H : Type) → List (DataW H) → Bool := fun _ ds => decide (uptoBulkAll ds ≤ 1048576)
def OpenSpec.upto (s : _root_.Go.ChangeSpec) : _root_.Go.OpenSpec := { _root_.Go.OpenSpec.ofChange s with cond := some uptoSmall }

/-- 'laws.FnUnlinkRoad', WHERE WHAT IT READS IS OF BULK AT MOST 1048576: true; the input reads as it did. -/
def fnUnlinkRoadUptoRow : OpenClaim := { program := "ytbkclmkncenaeaa", sum := "5a9d5ea9c95a8ccd6ef907a8032f8cafd2196a502f96fb4e1a9a0ad677cf1133", func := "loop.example/lib-ringsandslices/laws.FnUnlinkRoad", spec := "fnUnlinkRoad", apart := false, narrowed := true }
def FnUnlinkRoadUptoSaid : Prop := fnUnlinkRoadUptoRow.holds Try.pinned (OpenSpec.upto fnUnlinkRoadSpec)

/-- 'laws.FnLinkTwice', WHERE WHAT IT READS IS OF BULK AT MOST 1048576: true; the input reads as it did. -/
def fnLinkTwiceUptoRow : OpenClaim := { program := "ytbkclmkncenaeaa", sum := "5a9d5ea9c95a8ccd6ef907a8032f8cafd2196a502f96fb4e1a9a0ad677cf1133", func := "loop.example/lib-ringsandslices/laws.FnLinkTwice", spec := "fnLinkTwice", apart := false, narrowed := true }
def FnLinkTwiceUptoSaid : Prop := fnLinkTwiceUptoRow.holds Try.pinned (OpenSpec.upto fnLinkTwiceSpec)

/-- 'laws.FnUnlinkLink', WHERE WHAT IT READS IS OF BULK AT MOST 1048576: true; the input reads as it did. -/
def fnUnlinkLinkUptoRow : OpenClaim := { program := "ytbkclmkncenaeaa", sum := "5a9d5ea9c95a8ccd6ef907a8032f8cafd2196a502f96fb4e1a9a0ad677cf1133", func := "loop.example/lib-ringsandslices/laws.FnUnlinkLink", spec := "fnUnlinkLink", unfollowed := true, recurses := true, apart := false, narrowed := true }
def FnUnlinkLinkUptoSaid : Prop := fnUnlinkLinkUptoRow.holds Try.pinned (OpenSpec.upto fnUnlinkLinkSpec)

/-- 'laws.FnExactLink', WHERE WHAT IT READS IS OF BULK AT MOST 1048576: true; the input reads as it did. -/
def fnExactLinkUptoRow : OpenClaim := { program := "ytbkclmkncenaeaa", sum := "5a9d5ea9c95a8ccd6ef907a8032f8cafd2196a502f96fb4e1a9a0ad677cf1133", func := "loop.example/lib-ringsandslices/laws.FnExactLink", spec := "fnExactLink", apart := false, narrowed := true }
def FnExactLinkUptoSaid : Prop := fnExactLinkUptoRow.holds Try.pinned (OpenSpec.upto fnExactLinkSpec)

/-- 'laws.FnExactUnlink', WHERE WHAT IT READS IS OF BULK AT MOST 1048576: true; the input reads as it did. -/
def fnExactUnlinkUptoRow : OpenClaim := { program := "ytbkclmkncenaeaa", sum := "5a9d5ea9c95a8ccd6ef907a8032f8cafd2196a502f96fb4e1a9a0ad677cf1133", func := "loop.example/lib-ringsandslices/laws.FnExactUnlink", spec := "fnExactUnlink", apart := false, narrowed := true }
def FnExactUnlinkUptoSaid : Prop := fnExactUnlinkUptoRow.holds Try.pinned (OpenSpec.upto fnExactUnlinkSpec)

/-- 'laws.FnExactUnlinkRing', WHERE WHAT IT READS IS OF BULK AT MOST 1048576: true; the input reads as it did. -/
def fnExactUnlinkRingUptoRow : OpenClaim := { program := "ytbkclmkncenaeaa", sum := "5a9d5ea9c95a8ccd6ef907a8032f8cafd2196a502f96fb4e1a9a0ad677cf1133", func := "loop.example/lib-ringsandslices/laws.FnExactUnlinkRing", spec := "fnExactUnlinkRing", apart := false, narrowed := true }
def FnExactUnlinkRingUptoSaid : Prop := fnExactUnlinkRingUptoRow.holds Try.pinned (OpenSpec.upto fnExactUnlinkRingSpec)

/-- 'laws.FnExactUnlinkZero', WHERE WHAT IT READS IS OF BULK AT MOST 1048576: true; the input reads as it did. -/
def fnExactUnlinkZeroUptoRow : OpenClaim := { program := "ytbkclmkncenaeaa", sum := "5a9d5ea9c95a8ccd6ef907a8032f8cafd2196a502f96fb4e1a9a0ad677cf1133", func := "loop.example/lib-ringsandslices/laws.FnExactUnlinkZero", spec := "fnExactUnlinkZero", apart := false, narrowed := true }
def FnExactUnlinkZeroUptoSaid : Prop := fnExactUnlinkZeroUptoRow.holds Try.pinned (OpenSpec.upto fnExactUnlinkZeroSpec)

/-- 'laws.FnLinkLen', WHERE WHAT IT READS IS OF BULK AT MOST 1048576: true; the input reads as it did. -/
def fnLinkLenUptoRow : OpenClaim := { program := "ytbkclmkncenaeaa", sum := "5a9d5ea9c95a8ccd6ef907a8032f8cafd2196a502f96fb4e1a9a0ad677cf1133", func := "loop.example/lib-ringsandslices/laws.FnLinkLen", spec := "fnLinkLen", unfollowed := true, recurses := true, apart := false, narrowed := true }
def FnLinkLenUptoSaid : Prop := fnLinkLenUptoRow.holds Try.pinned (OpenSpec.upto fnLinkLenSpec)

end Rows
end Go.Proofs.Ytbkclmkncenaeaa

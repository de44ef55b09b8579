/-
  No cell of these rows narrows 'for every input' (looked for: loops, veiled, ifaces, maps, wideKeys, modest, calm, conditions, laid).
  DERIVED. THE GIVEN ROWS OF THIS SEAT. 7 by the template 'for every input the law returns true; each argument reads behind the call as it read before'; 0 by the template 'total and deterministic' (their statements: YtmhkffjbmdhekaaTotals.lean).
  GIVEN WITH THE SEED: the statements are not yours to turn. If you find one false, say at which input.
  Laid BY PROGRAM, IN A SANDBOX (cutbox-rows.mjs): the forced cells as the released guide's own fill.sh prints them over the translation 8b68c455bde9747c… (all of the seat's roots in one cut). By AI agents, Wed Nov 11 2026. No macro, syntax, notation, axiom, sorry.
-/
import Derived.Test.YtmhkffjbmdhekaaChecked
import GoSem.Claim
import GoSem.ClaimJoined
import GoSem.ClaimMapViews
import Derived.JoinedTies
import Derived.KernelRfl
namespace Go.Proofs.Ytmhkffjbmdhekaa
/- THE CELL 'sum', in the pinned program and in every row, IS THE sha256 OF THE DUMP (.gsa) THAT YtmhkffjbmdhekaaProg.lean LOADS. Nothing in Lean hashes anything: it is a label: what it is worth is what the hold of that sum in a sandbox is worth. -/
noncomputable def Try.pinned : Pinned := { name := "ytmhkffjbmdhekaa", sum := "8b68c455bde9747c5c6cbf872b9b909a1e82098da72bdd804dcdd29388d05a83", checked := Try.checked }
namespace Rows
def none {H : Type} : Left H := { results := [], args := [] }

/-- 'laws.FnExactClip': WHATEVER THE INPUT: true; the input reads as it did. -/
def fnExactClipSpec : ChangeSpec := { name := "fnExactClip", fn := fun _ => fun
  | [d1, d2] => { results := [.lit (.bool true)], args := [d1, d2] }
  | _ => none }
def fnExactClipRow : OpenClaim := { program := "ytmhkffjbmdhekaa", sum := "8b68c455bde9747c5c6cbf872b9b909a1e82098da72bdd804dcdd29388d05a83", func := "loop.example/lib-ringsandslices/laws.FnExactClip", spec := "fnExactClip", apart := false }
def FnExactClipSaid : Prop := fnExactClipRow.holds Try.pinned (OpenSpec.ofChange fnExactClipSpec)

/-- ITS FALSE NEIGHBOUR: 'it returns false'. Refute it at one input. -/
def fnExactClipWrong : ChangeSpec := { name := "fnExactClip", fn := fun _ => fun
  | [d1, d2] => { results := [.lit (.bool false)], args := [d1, d2] }
  | _ => none }
def FnExactClipWrongFalsely : Prop := fnExactClipRow.holds Try.pinned (OpenSpec.ofChange fnExactClipWrong)

/-- 'laws.FnContainsJoin': WHATEVER THE INPUT: true; the input reads as it did. -/
def fnContainsJoinSpec : ChangeSpec := { name := "fnContainsJoin", fn := fun _ => fun
  | [d] => { results := [.lit (.bool true)], args := [d] }
  | _ => none }
def fnContainsJoinRow : OpenClaim := { program := "ytmhkffjbmdhekaa", sum := "8b68c455bde9747c5c6cbf872b9b909a1e82098da72bdd804dcdd29388d05a83", func := "loop.example/lib-ringsandslices/laws.FnContainsJoin", spec := "fnContainsJoin", unfollowed := true, recurses := true, apart := false }
def FnContainsJoinSaid : Prop := fnContainsJoinRow.holds Try.pinned (OpenSpec.ofChange fnContainsJoinSpec)

/-- ITS FALSE NEIGHBOUR: 'it returns false'. Refute it at one input. -/
def fnContainsJoinWrong : ChangeSpec := { name := "fnContainsJoin", fn := fun _ => fun
  | [d] => { results := [.lit (.bool false)], args := [d] }
  | _ => none }
def FnContainsJoinWrongFalsely : Prop := fnContainsJoinRow.holds Try.pinned (OpenSpec.ofChange fnContainsJoinWrong)

/-- 'laws.FnExactContainsAsked': WHATEVER THE INPUT: true; the input reads as it did. -/
def fnExactContainsAskedSpec : ChangeSpec := { name := "fnExactContainsAsked", fn := fun _ => fun
  | [d1, d2] => { results := [.lit (.bool true)], args := [d1, d2] }
  | _ => none }
def fnExactContainsAskedRow : OpenClaim := { program := "ytmhkffjbmdhekaa", sum := "8b68c455bde9747c5c6cbf872b9b909a1e82098da72bdd804dcdd29388d05a83", func := "loop.example/lib-ringsandslices/laws.FnExactContainsAsked", spec := "fnExactContainsAsked", unfollowed := true, recurses := true, apart := false }
def FnExactContainsAskedSaid : Prop := fnExactContainsAskedRow.holds Try.pinned (OpenSpec.ofChange fnExactContainsAskedSpec)

/-- ITS FALSE NEIGHBOUR: 'it returns false'. Refute it at one input. -/
def fnExactContainsAskedWrong : ChangeSpec := { name := "fnExactContainsAsked", fn := fun _ => fun
  | [d1, d2] => { results := [.lit (.bool false)], args := [d1, d2] }
  | _ => none }
def FnExactContainsAskedWrongFalsely : Prop := fnExactContainsAskedRow.holds Try.pinned (OpenSpec.ofChange fnExactContainsAskedWrong)

/-- 'laws.FnExactContainsFunc': WHATEVER THE INPUT: true; the input reads as it did. -/
def fnExactContainsFuncSpec : ChangeSpec := { name := "fnExactContainsFunc", fn := fun _ => fun
  | [d1, d2] => { results := [.lit (.bool true)], args := [d1, d2] }
  | _ => none }
def fnExactContainsFuncRow : OpenClaim := { program := "ytmhkffjbmdhekaa", sum := "8b68c455bde9747c5c6cbf872b9b909a1e82098da72bdd804dcdd29388d05a83", func := "loop.example/lib-ringsandslices/laws.FnExactContainsFunc", spec := "fnExactContainsFunc", unfollowed := true, recurses := true, apart := false }
def FnExactContainsFuncSaid : Prop := fnExactContainsFuncRow.holds Try.pinned (OpenSpec.ofChange fnExactContainsFuncSpec)

/-- ITS FALSE NEIGHBOUR: 'it returns false'. Refute it at one input. -/
def fnExactContainsFuncWrong : ChangeSpec := { name := "fnExactContainsFunc", fn := fun _ => fun
  | [d1, d2] => { results := [.lit (.bool false)], args := [d1, d2] }
  | _ => none }
def FnExactContainsFuncWrongFalsely : Prop := fnExactContainsFuncRow.holds Try.pinned (OpenSpec.ofChange fnExactContainsFuncWrong)

/-- 'laws.FnExactGrow': WHATEVER THE INPUT: true; the input reads as it did. -/
def fnExactGrowSpec : ChangeSpec := { name := "fnExactGrow", fn := fun _ => fun
  | [d1, d2, d3] => { results := [.lit (.bool true)], args := [d1, d2, d3] }
  | _ => none }
def fnExactGrowRow : OpenClaim := { program := "ytmhkffjbmdhekaa", sum := "8b68c455bde9747c5c6cbf872b9b909a1e82098da72bdd804dcdd29388d05a83", func := "loop.example/lib-ringsandslices/laws.FnExactGrow", spec := "fnExactGrow", unfollowed := true, recurses := true, apart := false }
def FnExactGrowSaid : Prop := fnExactGrowRow.holds Try.pinned (OpenSpec.ofChange fnExactGrowSpec)

/-- ITS FALSE NEIGHBOUR: 'it returns false'. Refute it at one input. -/
def fnExactGrowWrong : ChangeSpec := { name := "fnExactGrow", fn := fun _ => fun
  | [d1, d2, d3] => { results := [.lit (.bool false)], args := [d1, d2, d3] }
  | _ => none }
def FnExactGrowWrongFalsely : Prop := fnExactGrowRow.holds Try.pinned (OpenSpec.ofChange fnExactGrowWrong)

/-- 'laws.FnExactGrowNil': WHATEVER THE INPUT: true; the input reads as it did. -/
def fnExactGrowNilSpec : ChangeSpec := { name := "fnExactGrowNil", fn := fun _ => fun
  | [d1, d2] => { results := [.lit (.bool true)], args := [d1, d2] }
  | _ => none }
def fnExactGrowNilRow : OpenClaim := { program := "ytmhkffjbmdhekaa", sum := "8b68c455bde9747c5c6cbf872b9b909a1e82098da72bdd804dcdd29388d05a83", func := "loop.example/lib-ringsandslices/laws.FnExactGrowNil", spec := "fnExactGrowNil", unfollowed := true, recurses := true, apart := false }
def FnExactGrowNilSaid : Prop := fnExactGrowNilRow.holds Try.pinned (OpenSpec.ofChange fnExactGrowNilSpec)

/-- ITS FALSE NEIGHBOUR: 'it returns false'. Refute it at one input. -/
def fnExactGrowNilWrong : ChangeSpec := { name := "fnExactGrowNil", fn := fun _ => fun
  | [d1, d2] => { results := [.lit (.bool false)], args := [d1, d2] }
  | _ => none }
def FnExactGrowNilWrongFalsely : Prop := fnExactGrowNilRow.holds Try.pinned (OpenSpec.ofChange fnExactGrowNilWrong)

/-- 'laws.FnGrowClip': WHATEVER THE INPUT: true; the input reads as it did. -/
def fnGrowClipSpec : ChangeSpec := { name := "fnGrowClip", fn := fun _ => fun
  | [d] => { results := [.lit (.bool true)], args := [d] }
  | _ => none }
def fnGrowClipRow : OpenClaim := { program := "ytmhkffjbmdhekaa", sum := "8b68c455bde9747c5c6cbf872b9b909a1e82098da72bdd804dcdd29388d05a83", func := "loop.example/lib-ringsandslices/laws.FnGrowClip", spec := "fnGrowClip", unfollowed := true, recurses := true, apart := false }
def FnGrowClipSaid : Prop := fnGrowClipRow.holds Try.pinned (OpenSpec.ofChange fnGrowClipSpec)

/-- ITS FALSE NEIGHBOUR: 'it returns false'. Refute it at one input. -/
def fnGrowClipWrong : ChangeSpec := { name := "fnGrowClip", fn := fun _ => fun
  | [d] => { results := [.lit (.bool false)], args := [d] }
  | _ => none }
def FnGrowClipWrongFalsely : Prop := fnGrowClipRow.holds Try.pinned (OpenSpec.ofChange fnGrowClipWrong)

/- THE SECOND FORM. 'bulk': how many values and letters a reading holds, each counted each time it is reached (what is shared counts as often as it is met; a slice's spare places count too). A statement '..UptoSaid' is the law's where the arguments, and the package variables that the reading takes, are together of bulk at most 1048576: NARROWER than '..Said'. Prove '..Said' where nothing that the law and all that it calls make is longer than what came in: it says more and counts as full. Else prove '..UptoSaid'. A law counts once. -/
mutual
def uptoBulk {H : Type} : DataW H → Nat
  | .lit (.string bytes) => bytes.length + 1
  | .lit _ => 1
  | .nil => 1
  | .ptr d => uptoBulk d + 1
  | .slice elems spare => uptoBulkAll elems + uptoBulkAll spare + 1
  | .agg parts => uptoBulkAll parts + 1
  | .iface _ d => uptoBulk d + 1
  | .map entries => uptoBulkEntries entries + 1
  | .held _ => 1
def uptoBulkAll {H : Type} : List (DataW H) → Nat
  | [] => 0
  | d :: r => uptoBulk d + uptoBulkAll r
def uptoBulkEntries {H : Type} : List (Lit × DataW H) → Nat
  | [] => 0
  | x :: r => uptoBulkEntry x + uptoBulkEntries r
def uptoBulkEntry {H : Type} : Lit × DataW H → Nat
  | (.string bytes, d) => bytes.length + uptoBulk d + 1
  | (_, d) => uptoBulk d + 1
 end
def uptoSmall : (H : Type) → List (DataW H) → Bool := fun _ ds => decide (uptoBulkAll ds ≤ 1048576)
def OpenSpec.upto (s : _root_.Go.ChangeSpec) : _root_.Go.OpenSpec := { _root_.Go.OpenSpec.ofChange s with cond := some uptoSmall }

/-- 'laws.FnExactClip', WHERE WHAT IT READS IS OF BULK AT MOST 1048576: true; the input reads as it did. -/
def fnExactClipUptoRow : OpenClaim := { program := "ytmhkffjbmdhekaa", sum := "8b68c455bde9747c5c6cbf872b9b909a1e82098da72bdd804dcdd29388d05a83", func := "loop.example/lib-ringsandslices/laws.FnExactClip", spec := "fnExactClip", apart := false, narrowed := true }
def FnExactClipUptoSaid : Prop := fnExactClipUptoRow.holds Try.pinned (OpenSpec.upto fnExactClipSpec)

/-- 'laws.FnContainsJoin', WHERE WHAT IT READS IS OF BULK AT MOST 1048576: true; the input reads as it did. -/
def fnContainsJoinUptoRow : OpenClaim := { program := "ytmhkffjbmdhekaa", sum := "8b68c455bde9747c5c6cbf872b9b909a1e82098da72bdd804dcdd29388d05a83", func := "loop.example/lib-ringsandslices/laws.FnContainsJoin", spec := "fnContainsJoin", unfollowed := true, recurses := true, apart := false, narrowed := true }
def FnContainsJoinUptoSaid : Prop := fnContainsJoinUptoRow.holds Try.pinned (OpenSpec.upto fnContainsJoinSpec)

/-- 'laws.FnExactContainsAsked', WHERE WHAT IT READS IS OF BULK AT MOST 1048576: true; the input reads as it did. -/
def fnExactContainsAskedUptoRow : OpenClaim := { program := "ytmhkffjbmdhekaa", sum := "8b68c455bde9747c5c6cbf872b9b909a1e82098da72bdd804dcdd29388d05a83", func := "loop.example/lib-ringsandslices/laws.FnExactContainsAsked", spec := "fnExactContainsAsked", unfollowed := true, recurses := true, apart := false, narrowed := true }
def FnExactContainsAskedUptoSaid : Prop := fnExactContainsAskedUptoRow.holds Try.pinned (OpenSpec.upto fnExactContainsAskedSpec)

/-- 'laws.FnExactContainsFunc', WHERE WHAT IT READS IS OF BULK AT MOST 1048576: true; the input reads as it did. -/
def fnExactContainsFuncUptoRow : OpenClaim := { program := "ytmhkffjbmdhekaa", sum := "8b68c455bde9747c5c6cbf872b9b909a1e82098da72bdd804dcdd29388d05a83", func := "loop.example/lib-ringsandslices/laws.FnExactContainsFunc", spec := "fnExactContainsFunc", unfollowed := true, recurses := true, apart := false, narrowed := true }
def FnExactContainsFuncUptoSaid : Prop := fnExactContainsFuncUptoRow.holds Try.pinned (OpenSpec.upto fnExactContainsFuncSpec)

/-- 'laws.FnExactGrow', WHERE WHAT IT READS IS OF BULK AT MOST 1048576: true; the input reads as it did. -/
def fnExactGrowUptoRow : OpenClaim := { program := "ytmhkffjbmdhekaa", sum := "8b68c455bde9747c5c6cbf872b9b909a1e82098da72bdd804dcdd29388d05a83", func := "loop.example/lib-ringsandslices/laws.FnExactGrow", spec := "fnExactGrow", unfollowed := true, recurses := true, apart := false, narrowed := true }
def FnExactGrowUptoSaid : Prop := fnExactGrowUptoRow.holds Try.pinned (OpenSpec.upto fnExactGrowSpec)

/-- 'laws.FnExactGrowNil', WHERE WHAT IT READS IS OF BULK AT MOST 1048576: true; the input reads as it did. -/
def fnExactGrowNilUptoRow : OpenClaim := { program := "ytmhkffjbmdhekaa", sum := "8b68c455bde9747c5c6cbf872b9b909a1e82098da72bdd804dcdd29388d05a83", func := "loop.example/lib-ringsandslices/laws.FnExactGrowNil", spec := "fnExactGrowNil", unfollowed := true, recurses := true, apart := false, narrowed := true }
def FnExactGrowNilUptoSaid : Prop := fnExactGrowNilUptoRow.holds Try.pinned (OpenSpec.upto fnExactGrowNilSpec)

/-- 'laws.FnGrowClip', WHERE WHAT IT READS IS OF BULK AT MOST 1048576: true; the input reads as it did. -/
def fnGrowClipUptoRow : OpenClaim := { program := "ytmhkffjbmdhekaa", sum := "8b68c455bde9747c5c6cbf872b9b909a1e82098da72bdd804dcdd29388d05a83", func := "loop.example/lib-ringsandslices/laws.FnGrowClip", spec := "fnGrowClip", unfollowed := true, recurses := true, apart := false, narrowed := true }
def FnGrowClipUptoSaid : Prop := fnGrowClipUptoRow.holds Try.pinned (OpenSpec.upto fnGrowClipSpec)

end Rows
end Go.Proofs.Ytmhkffjbmdhekaa

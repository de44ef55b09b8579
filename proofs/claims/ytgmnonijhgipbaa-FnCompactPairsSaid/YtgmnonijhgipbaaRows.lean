/-
  No cell of these rows narrows 'for every input' (looked for: loops, veiled, ifaces, maps, wideKeys, modest, calm, conditions, laid).
  DERIVED. THE GIVEN ROWS OF THIS SEAT. 9 by the template 'for every input the law returns true; each argument reads behind the call as it read before'; 0 by the template 'total and deterministic' (their statements: YtgmnonijhgipbaaTotals.lean).
  GIVEN WITH THE SEED: the statements are not yours to turn. If you find one false, say at which input.
  Laid BY PROGRAM, IN A SANDBOX (cutbox-rows.mjs): the forced cells as the released guide's own fill.sh prints them over the translation 0e4767485a8538a1… (all of the seat's roots in one cut). By AI agents, Wed Nov 11 2026. No macro, syntax, notation, axiom, sorry.
-/
import Derived.Test.YtgmnonijhgipbaaChecked
import GoSem.Claim
import GoSem.ClaimJoined
import GoSem.ClaimMapViews
import Derived.JoinedTies
import Derived.KernelRfl
namespace Go.Proofs.Ytgmnonijhgipbaa
/- THE CELL 'sum', in the pinned program and in every row, IS THE sha256 OF THE DUMP (.gsa) THAT YtgmnonijhgipbaaProg.lean LOADS. Nothing in Lean hashes anything: it is a label: what it is worth is what the hold of that sum in a sandbox is worth. -/
noncomputable def Try.pinned : Pinned := { name := "ytgmnonijhgipbaa", sum := "0e4767485a8538a13b1ab7042d3b0f4577241f4f0b4dcbb3f92e74e7071afde6", checked := Try.checked }
namespace Rows
def none {H : Type} : Left H := { results := [], args := [] }

/-- 'laws.FnExactCompactPairs': WHATEVER THE INPUT: true; the input reads as it did. -/
def fnExactCompactPairsSpec : ChangeSpec := { name := "fnExactCompactPairs", fn := fun _ => fun
  | [d1, d2] => { results := [.lit (.bool true)], args := [d1, d2] }
  | _ => none }
def fnExactCompactPairsRow : OpenClaim := { program := "ytgmnonijhgipbaa", sum := "0e4767485a8538a13b1ab7042d3b0f4577241f4f0b4dcbb3f92e74e7071afde6", func := "loop.example/lib-ringsandslices/laws.FnExactCompactPairs", spec := "fnExactCompactPairs", unfollowed := true, recurses := true, apart := false }
def FnExactCompactPairsSaid : Prop := fnExactCompactPairsRow.holds Try.pinned (OpenSpec.ofChange fnExactCompactPairsSpec)

/-- ITS FALSE NEIGHBOUR: 'it returns false'. Refute it at one input. -/
def fnExactCompactPairsWrong : ChangeSpec := { name := "fnExactCompactPairs", fn := fun _ => fun
  | [d1, d2] => { results := [.lit (.bool false)], args := [d1, d2] }
  | _ => none }
def FnExactCompactPairsWrongFalsely : Prop := fnExactCompactPairsRow.holds Try.pinned (OpenSpec.ofChange fnExactCompactPairsWrong)

/-- 'laws.FnCompactDouble': WHATEVER THE INPUT: true; the input reads as it did. -/
def fnCompactDoubleSpec : ChangeSpec := { name := "fnCompactDouble", fn := fun _ => fun
  | [d] => { results := [.lit (.bool true)], args := [d] }
  | _ => none }
def fnCompactDoubleRow : OpenClaim := { program := "ytgmnonijhgipbaa", sum := "0e4767485a8538a13b1ab7042d3b0f4577241f4f0b4dcbb3f92e74e7071afde6", func := "loop.example/lib-ringsandslices/laws.FnCompactDouble", spec := "fnCompactDouble", unfollowed := true, recurses := true, apart := false }
def FnCompactDoubleSaid : Prop := fnCompactDoubleRow.holds Try.pinned (OpenSpec.ofChange fnCompactDoubleSpec)

/-- ITS FALSE NEIGHBOUR: 'it returns false'. Refute it at one input. -/
def fnCompactDoubleWrong : ChangeSpec := { name := "fnCompactDouble", fn := fun _ => fun
  | [d] => { results := [.lit (.bool false)], args := [d] }
  | _ => none }
def FnCompactDoubleWrongFalsely : Prop := fnCompactDoubleRow.holds Try.pinned (OpenSpec.ofChange fnCompactDoubleWrong)

/-- 'laws.FnCompactTwice': WHATEVER THE INPUT: true; the input reads as it did. -/
def fnCompactTwiceSpec : ChangeSpec := { name := "fnCompactTwice", fn := fun _ => fun
  | [d] => { results := [.lit (.bool true)], args := [d] }
  | _ => none }
def fnCompactTwiceRow : OpenClaim := { program := "ytgmnonijhgipbaa", sum := "0e4767485a8538a13b1ab7042d3b0f4577241f4f0b4dcbb3f92e74e7071afde6", func := "loop.example/lib-ringsandslices/laws.FnCompactTwice", spec := "fnCompactTwice", unfollowed := true, recurses := true, apart := false }
def FnCompactTwiceSaid : Prop := fnCompactTwiceRow.holds Try.pinned (OpenSpec.ofChange fnCompactTwiceSpec)

/-- ITS FALSE NEIGHBOUR: 'it returns false'. Refute it at one input. -/
def fnCompactTwiceWrong : ChangeSpec := { name := "fnCompactTwice", fn := fun _ => fun
  | [d] => { results := [.lit (.bool false)], args := [d] }
  | _ => none }
def FnCompactTwiceWrongFalsely : Prop := fnCompactTwiceRow.holds Try.pinned (OpenSpec.ofChange fnCompactTwiceWrong)

/-- 'laws.FnExactCompactFunc': WHATEVER THE INPUT: true; the input reads as it did. -/
def fnExactCompactFuncSpec : ChangeSpec := { name := "fnExactCompactFunc", fn := fun _ => fun
  | [d1, d2] => { results := [.lit (.bool true)], args := [d1, d2] }
  | _ => none }
def fnExactCompactFuncRow : OpenClaim := { program := "ytgmnonijhgipbaa", sum := "0e4767485a8538a13b1ab7042d3b0f4577241f4f0b4dcbb3f92e74e7071afde6", func := "loop.example/lib-ringsandslices/laws.FnExactCompactFunc", spec := "fnExactCompactFunc", unfollowed := true, recurses := true, apart := false }
def FnExactCompactFuncSaid : Prop := fnExactCompactFuncRow.holds Try.pinned (OpenSpec.ofChange fnExactCompactFuncSpec)

/-- ITS FALSE NEIGHBOUR: 'it returns false'. Refute it at one input. -/
def fnExactCompactFuncWrong : ChangeSpec := { name := "fnExactCompactFunc", fn := fun _ => fun
  | [d1, d2] => { results := [.lit (.bool false)], args := [d1, d2] }
  | _ => none }
def FnExactCompactFuncWrongFalsely : Prop := fnExactCompactFuncRow.holds Try.pinned (OpenSpec.ofChange fnExactCompactFuncWrong)

/-- 'laws.FnDeleteBoth': WHATEVER THE INPUT: true; the input reads as it did. -/
def fnDeleteBothSpec : ChangeSpec := { name := "fnDeleteBoth", fn := fun _ => fun
  | [d] => { results := [.lit (.bool true)], args := [d] }
  | _ => none }
def fnDeleteBothRow : OpenClaim := { program := "ytgmnonijhgipbaa", sum := "0e4767485a8538a13b1ab7042d3b0f4577241f4f0b4dcbb3f92e74e7071afde6", func := "loop.example/lib-ringsandslices/laws.FnDeleteBoth", spec := "fnDeleteBoth", unfollowed := true, recurses := true, apart := false }
def FnDeleteBothSaid : Prop := fnDeleteBothRow.holds Try.pinned (OpenSpec.ofChange fnDeleteBothSpec)

/-- ITS FALSE NEIGHBOUR: 'it returns false'. Refute it at one input. -/
def fnDeleteBothWrong : ChangeSpec := { name := "fnDeleteBoth", fn := fun _ => fun
  | [d] => { results := [.lit (.bool false)], args := [d] }
  | _ => none }
def FnDeleteBothWrongFalsely : Prop := fnDeleteBothRow.holds Try.pinned (OpenSpec.ofChange fnDeleteBothWrong)

/-- 'laws.FnExactDeleteFunc': WHATEVER THE INPUT: true; the input reads as it did. -/
def fnExactDeleteFuncSpec : ChangeSpec := { name := "fnExactDeleteFunc", fn := fun _ => fun
  | [d1, d2] => { results := [.lit (.bool true)], args := [d1, d2] }
  | _ => none }
def fnExactDeleteFuncRow : OpenClaim := { program := "ytgmnonijhgipbaa", sum := "0e4767485a8538a13b1ab7042d3b0f4577241f4f0b4dcbb3f92e74e7071afde6", func := "loop.example/lib-ringsandslices/laws.FnExactDeleteFunc", spec := "fnExactDeleteFunc", unfollowed := true, recurses := true, apart := false }
def FnExactDeleteFuncSaid : Prop := fnExactDeleteFuncRow.holds Try.pinned (OpenSpec.ofChange fnExactDeleteFuncSpec)

/-- ITS FALSE NEIGHBOUR: 'it returns false'. Refute it at one input. -/
def fnExactDeleteFuncWrong : ChangeSpec := { name := "fnExactDeleteFunc", fn := fun _ => fun
  | [d1, d2] => { results := [.lit (.bool false)], args := [d1, d2] }
  | _ => none }
def FnExactDeleteFuncWrongFalsely : Prop := fnExactDeleteFuncRow.holds Try.pinned (OpenSpec.ofChange fnExactDeleteFuncWrong)

/-- 'laws.FnCompactPairs': WHATEVER THE INPUT: true; the input reads as it did. -/
def fnCompactPairsSpec : ChangeSpec := { name := "fnCompactPairs", fn := fun _ => fun
  | [d] => { results := [.lit (.bool true)], args := [d] }
  | _ => none }
def fnCompactPairsRow : OpenClaim := { program := "ytgmnonijhgipbaa", sum := "0e4767485a8538a13b1ab7042d3b0f4577241f4f0b4dcbb3f92e74e7071afde6", func := "loop.example/lib-ringsandslices/laws.FnCompactPairs", spec := "fnCompactPairs", unfollowed := true, recurses := true, apart := false }
def FnCompactPairsSaid : Prop := fnCompactPairsRow.holds Try.pinned (OpenSpec.ofChange fnCompactPairsSpec)

/-- ITS FALSE NEIGHBOUR: 'it returns false'. Refute it at one input. -/
def fnCompactPairsWrong : ChangeSpec := { name := "fnCompactPairs", fn := fun _ => fun
  | [d] => { results := [.lit (.bool false)], args := [d] }
  | _ => none }
def FnCompactPairsWrongFalsely : Prop := fnCompactPairsRow.holds Try.pinned (OpenSpec.ofChange fnCompactPairsWrong)

/-- 'laws.FnDeleteNone': WHATEVER THE INPUT: true; the input reads as it did. -/
def fnDeleteNoneSpec : ChangeSpec := { name := "fnDeleteNone", fn := fun _ => fun
  | [d] => { results := [.lit (.bool true)], args := [d] }
  | _ => none }
def fnDeleteNoneRow : OpenClaim := { program := "ytgmnonijhgipbaa", sum := "0e4767485a8538a13b1ab7042d3b0f4577241f4f0b4dcbb3f92e74e7071afde6", func := "loop.example/lib-ringsandslices/laws.FnDeleteNone", spec := "fnDeleteNone", unfollowed := true, recurses := true, apart := false }
def FnDeleteNoneSaid : Prop := fnDeleteNoneRow.holds Try.pinned (OpenSpec.ofChange fnDeleteNoneSpec)

/-- ITS FALSE NEIGHBOUR: 'it returns false'. Refute it at one input. -/
def fnDeleteNoneWrong : ChangeSpec := { name := "fnDeleteNone", fn := fun _ => fun
  | [d] => { results := [.lit (.bool false)], args := [d] }
  | _ => none }
def FnDeleteNoneWrongFalsely : Prop := fnDeleteNoneRow.holds Try.pinned (OpenSpec.ofChange fnDeleteNoneWrong)

/-- 'laws.FnDeleteTwice': WHATEVER THE INPUT: true; the input reads as it did. -/
def fnDeleteTwiceSpec : ChangeSpec := { name := "fnDeleteTwice", fn := fun _ => fun
  | [d] => { results := [.lit (.bool true)], args := [d] }
  | _ => none }
def fnDeleteTwiceRow : OpenClaim := { program := "ytgmnonijhgipbaa", sum := "0e4767485a8538a13b1ab7042d3b0f4577241f4f0b4dcbb3f92e74e7071afde6", func := "loop.example/lib-ringsandslices/laws.FnDeleteTwice", spec := "fnDeleteTwice", unfollowed := true, recurses := true, apart := false }
def FnDeleteTwiceSaid : Prop := fnDeleteTwiceRow.holds Try.pinned (OpenSpec.ofChange fnDeleteTwiceSpec)

/-- ITS FALSE NEIGHBOUR: 'it returns false'. Refute it at one input. -/
def fnDeleteTwiceWrong : ChangeSpec := { name := "fnDeleteTwice", fn := fun _ => fun
  | [d] => { results := [.lit (.bool false)], args := [d] }
  | _ => none }
def FnDeleteTwiceWrongFalsely : Prop := fnDeleteTwiceRow.holds Try.pinned (OpenSpec.ofChange fnDeleteTwiceWrong)

/- THE SECOND FORM. 'bulk': how many values and letters a reading holds, each counted each time it is reached (what is shared counts as often as it is met; a slice's spare places count too). A statement '..UptoSaid' is the law's where the arguments, and the package variables that the reading takes, are together of bulk at most 1048576: NARROWER than '..Said'. Prove '..Said' where nothing that the law and all that it calls make is longer than what came in: it says more and counts as full. Else prove '..UptoSaid'. A law counts once. -/
mutual
def uptoBulk {H : Type} : DataW H → Nat
  | .lit (.string bytes) => bytes.length + 1
  | .lit _ => 1
  | .nil => 1
  | .ptr d => uptoBulk d + 1
  | .slice elems spare => uptoBulkAll elems + uptoBulkAll spare + 1
  | .agg parts => uptoBulkAll parts + 1
  | .iface _ d => uptoBulk d + 1
  | .map entries => uptoBulkEntries entries + 1
  | .held _ => 1
def uptoBulkAll {H : Type} : List (DataW H) → Nat
  | [] => 0
  | d :: r => uptoBulk d + uptoBulkAll r
def uptoBulkEntries {H : Type} : List (Lit × DataW H) → Nat
  | [] => 0
  | x :: r => uptoBulkEntry x + uptoBulkEntries r
def uptoBulkEntry {H : Type} : Lit × DataW H → Nat
  | (.string bytes, d) => bytes.length + uptoBulk d + 1
  | (_, d) => uptoBulk d + 1
 end
def uptoSmall : (H : Type) → List (DataW H) → Bool := fun _ ds => decide (uptoBulkAll ds ≤ 1048576)
def OpenSpec.upto (s : _root_.Go.ChangeSpec) : _root_.Go.OpenSpec := { _root_.Go.OpenSpec.ofChange s with cond := some uptoSmall }

/-- 'laws.FnExactCompactPairs', WHERE WHAT IT READS IS OF BULK AT MOST 1048576: true; the input reads as it did. -/
def fnExactCompactPairsUptoRow : OpenClaim := { program := "ytgmnonijhgipbaa", sum := "0e4767485a8538a13b1ab7042d3b0f4577241f4f0b4dcbb3f92e74e7071afde6", func := "loop.example/lib-ringsandslices/laws.FnExactCompactPairs", spec := "fnExactCompactPairs", unfollowed := true, recurses := true, apart := false, narrowed := true }
def FnExactCompactPairsUptoSaid : Prop := fnExactCompactPairsUptoRow.holds Try.pinned (OpenSpec.upto fnExactCompactPairsSpec)

/-- 'laws.FnCompactDouble', WHERE WHAT IT READS IS OF BULK AT MOST 1048576: true; the input reads as it did. -/
def fnCompactDoubleUptoRow : OpenClaim := { program := "ytgmnonijhgipbaa", sum := "0e4767485a8538a13b1ab7042d3b0f4577241f4f0b4dcbb3f92e74e7071afde6", func := "loop.example/lib-ringsandslices/laws.FnCompactDouble", spec := "fnCompactDouble", unfollowed := true, recurses := true, apart := false, narrowed := true }
def FnCompactDoubleUptoSaid : Prop := fnCompactDoubleUptoRow.holds Try.pinned (OpenSpec.upto fnCompactDoubleSpec)

/-- 'laws.FnCompactTwice', WHERE WHAT IT READS IS OF BULK AT MOST 1048576: true; the input reads as it did. -/
def fnCompactTwiceUptoRow : OpenClaim := { program := "ytgmnonijhgipbaa", sum := "0e4767485a8538a13b1ab7042d3b0f4577241f4f0b4dcbb3f92e74e7071afde6", func := "loop.example/lib-ringsandslices/laws.FnCompactTwice", spec := "fnCompactTwice", unfollowed := true, recurses := true, apart := false, narrowed := true }
def FnCompactTwiceUptoSaid : Prop := fnCompactTwiceUptoRow.holds Try.pinned (OpenSpec.upto fnCompactTwiceSpec)

/-- 'laws.FnExactCompactFunc', WHERE WHAT IT READS IS OF BULK AT MOST 1048576: true; the input reads as it did. -/
def fnExactCompactFuncUptoRow : OpenClaim := { program := "ytgmnonijhgipbaa", sum := "0e4767485a8538a13b1ab7042d3b0f4577241f4f0b4dcbb3f92e74e7071afde6", func := "loop.example/lib-ringsandslices/laws.FnExactCompactFunc", spec := "fnExactCompactFunc", unfollowed := true, recurses := true, apart := false, narrowed := true }
def FnExactCompactFuncUptoSaid : Prop := fnExactCompactFuncUptoRow.holds Try.pinned (OpenSpec.upto fnExactCompactFuncSpec)

/-- 'laws.FnDeleteBoth', WHERE WHAT IT READS IS OF BULK AT MOST 1048576: true; the input reads as it did. -/
def fnDeleteBothUptoRow : OpenClaim := { program := "ytgmnonijhgipbaa", sum := "0e4767485a8538a13b1ab7042d3b0f4577241f4f0b4dcbb3f92e74e7071afde6", func := "loop.example/lib-ringsandslices/laws.FnDeleteBoth", spec := "fnDeleteBoth", unfollowed := true, recurses := true, apart := false, narrowed := true }
def FnDeleteBothUptoSaid : Prop := fnDeleteBothUptoRow.holds Try.pinned (OpenSpec.upto fnDeleteBothSpec)

/-- 'laws.FnExactDeleteFunc', WHERE WHAT IT READS IS OF BULK AT MOST 1048576: true; the input reads as it did. -/
def fnExactDeleteFuncUptoRow : OpenClaim := { program := "ytgmnonijhgipbaa", sum := "0e4767485a8538a13b1ab7042d3b0f4577241f4f0b4dcbb3f92e74e7071afde6", func := "loop.example/lib-ringsandslices/laws.FnExactDeleteFunc", spec := "fnExactDeleteFunc", unfollowed := true, recurses := true, apart := false, narrowed := true }
def FnExactDeleteFuncUptoSaid : Prop := fnExactDeleteFuncUptoRow.holds Try.pinned (OpenSpec.upto fnExactDeleteFuncSpec)

/-- 'laws.FnCompactPairs', WHERE WHAT IT READS IS OF BULK AT MOST 1048576: true; the input reads as it did. -/
def fnCompactPairsUptoRow : OpenClaim := { program := "ytgmnonijhgipbaa", sum := "0e4767485a8538a13b1ab7042d3b0f4577241f4f0b4dcbb3f92e74e7071afde6", func := "loop.example/lib-ringsandslices/laws.FnCompactPairs", spec := "fnCompactPairs", unfollowed := true, recurses := true, apart := false, narrowed := true }
def FnCompactPairsUptoSaid : Prop := fnCompactPairsUptoRow.holds Try.pinned (OpenSpec.upto fnCompactPairsSpec)

/-- 'laws.FnDeleteNone', WHERE WHAT IT READS IS OF BULK AT MOST 1048576: true; the input reads as it did. -/
def fnDeleteNoneUptoRow : OpenClaim := { program := "ytgmnonijhgipbaa", sum := "0e4767485a8538a13b1ab7042d3b0f4577241f4f0b4dcbb3f92e74e7071afde6", func := "loop.example/lib-ringsandslices/laws.FnDeleteNone", spec := "fnDeleteNone", unfollowed := true, recurses := true, apart := false, narrowed := true }
def FnDeleteNoneUptoSaid : Prop := fnDeleteNoneUptoRow.holds Try.pinned (OpenSpec.upto fnDeleteNoneSpec)

/-- 'laws.FnDeleteTwice', WHERE WHAT IT READS IS OF BULK AT MOST 1048576: true; the input reads as it did. -/
def fnDeleteTwiceUptoRow : OpenClaim := { program := "ytgmnonijhgipbaa", sum := "0e4767485a8538a13b1ab7042d3b0f4577241f4f0b4dcbb3f92e74e7071afde6", func := "loop.example/lib-ringsandslices/laws.FnDeleteTwice", spec := "fnDeleteTwice", unfollowed := true, recurses := true, apart := false, narrowed := true }
def FnDeleteTwiceUptoSaid : Prop := fnDeleteTwiceUptoRow.holds Try.pinned (OpenSpec.upto fnDeleteTwiceSpec)

end Rows
end Go.Proofs.Ytgmnonijhgipbaa

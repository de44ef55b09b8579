/-
  No cell of these rows narrows 'for every input' (looked for: loops, veiled, ifaces, maps, wideKeys, modest, calm, conditions, laid).
  DERIVED. THE GIVEN ROWS OF THIS SEAT. 8 by the template 'for every input the law returns true; each argument reads behind the call as it read before'; 0 by the template 'total and deterministic' (their statements: YtjkpphenfcddlaaTotals.lean).
  GIVEN WITH THE SEED: the statements are not yours to turn. If you find one false, say at which input.
  Laid BY PROGRAM, IN A SANDBOX (cutbox-rows.mjs): the forced cells as the released guide's own fill.sh prints them over the translation e4cd7133ee2164cf… (all of the seat's roots in one cut). By AI agents, Wed Nov 11 2026. No macro, syntax, notation, axiom, sorry.
-/
import Derived.Test.YtjkpphenfcddlaaChecked
import GoSem.Claim
import GoSem.ClaimJoined
import GoSem.ClaimMapViews
import Derived.JoinedTies
import Derived.KernelRfl
namespace Go.Proofs.Ytjkpphenfcddlaa
/- THE CELL 'sum', in the pinned program and in every row, IS THE sha256 OF THE DUMP (.gsa) THAT YtjkpphenfcddlaaProg.lean LOADS. Nothing in Lean hashes anything: it is a label: what it is worth is what the hold of that sum in a sandbox is worth. -/
noncomputable def Try.pinned : Pinned := { name := "ytjkpphenfcddlaa", sum := "e4cd7133ee2164cf2860da5df2ac7c5c82a55165ed6c5292aa7dae28c6d312c4", checked := Try.checked }
namespace Rows
def none {H : Type} : Left H := { results := [], args := [] }

/-- 'laws.FnExactDo': WHATEVER THE INPUT: true; the input reads as it did. -/
def fnExactDoSpec : ChangeSpec := { name := "fnExactDo", fn := fun _ => fun
  | [d1, d2] => { results := [.lit (.bool true)], args := [d1, d2] }
  | _ => none }
def fnExactDoRow : OpenClaim := { program := "ytjkpphenfcddlaa", sum := "e4cd7133ee2164cf2860da5df2ac7c5c82a55165ed6c5292aa7dae28c6d312c4", func := "loop.example/lib-ringsandslices/laws.FnExactDo", spec := "fnExactDo", unfollowed := true, recurses := true, apart := false }
def FnExactDoSaid : Prop := fnExactDoRow.holds Try.pinned (OpenSpec.ofChange fnExactDoSpec)

/-- ITS FALSE NEIGHBOUR: 'it returns false'. Refute it at one input. -/
def fnExactDoWrong : ChangeSpec := { name := "fnExactDo", fn := fun _ => fun
  | [d1, d2] => { results := [.lit (.bool false)], args := [d1, d2] }
  | _ => none }
def FnExactDoWrongFalsely : Prop := fnExactDoRow.holds Try.pinned (OpenSpec.ofChange fnExactDoWrong)

/-- 'laws.FnExactDoRing': WHATEVER THE INPUT: true; the input reads as it did. -/
def fnExactDoRingSpec : ChangeSpec := { name := "fnExactDoRing", fn := fun _ => fun
  | [d1, d2] => { results := [.lit (.bool true)], args := [d1, d2] }
  | _ => none }
def fnExactDoRingRow : OpenClaim := { program := "ytjkpphenfcddlaa", sum := "e4cd7133ee2164cf2860da5df2ac7c5c82a55165ed6c5292aa7dae28c6d312c4", func := "loop.example/lib-ringsandslices/laws.FnExactDoRing", spec := "fnExactDoRing", unfollowed := true, recurses := true, apart := false }
def FnExactDoRingSaid : Prop := fnExactDoRingRow.holds Try.pinned (OpenSpec.ofChange fnExactDoRingSpec)

/-- ITS FALSE NEIGHBOUR: 'it returns false'. Refute it at one input. -/
def fnExactDoRingWrong : ChangeSpec := { name := "fnExactDoRing", fn := fun _ => fun
  | [d1, d2] => { results := [.lit (.bool false)], args := [d1, d2] }
  | _ => none }
def FnExactDoRingWrongFalsely : Prop := fnExactDoRingRow.holds Try.pinned (OpenSpec.ofChange fnExactDoRingWrong)

/-- 'laws.FnNextPrev': WHATEVER THE INPUT: true; the input reads as it did. -/
def fnNextPrevSpec : ChangeSpec := { name := "fnNextPrev", fn := fun _ => fun
  | [d] => { results := [.lit (.bool true)], args := [d] }
  | _ => none }
def fnNextPrevRow : OpenClaim := { program := "ytjkpphenfcddlaa", sum := "e4cd7133ee2164cf2860da5df2ac7c5c82a55165ed6c5292aa7dae28c6d312c4", func := "loop.example/lib-ringsandslices/laws.FnNextPrev", spec := "fnNextPrev", apart := false }
def FnNextPrevSaid : Prop := fnNextPrevRow.holds Try.pinned (OpenSpec.ofChange fnNextPrevSpec)

/-- ITS FALSE NEIGHBOUR: 'it returns false'. Refute it at one input. -/
def fnNextPrevWrong : ChangeSpec := { name := "fnNextPrev", fn := fun _ => fun
  | [d] => { results := [.lit (.bool false)], args := [d] }
  | _ => none }
def FnNextPrevWrongFalsely : Prop := fnNextPrevRow.holds Try.pinned (OpenSpec.ofChange fnNextPrevWrong)

/-- 'laws.FnMoveOne': WHATEVER THE INPUT: true; the input reads as it did. -/
def fnMoveOneSpec : ChangeSpec := { name := "fnMoveOne", fn := fun _ => fun
  | [d] => { results := [.lit (.bool true)], args := [d] }
  | _ => none }
def fnMoveOneRow : OpenClaim := { program := "ytjkpphenfcddlaa", sum := "e4cd7133ee2164cf2860da5df2ac7c5c82a55165ed6c5292aa7dae28c6d312c4", func := "loop.example/lib-ringsandslices/laws.FnMoveOne", spec := "fnMoveOne", apart := false }
def FnMoveOneSaid : Prop := fnMoveOneRow.holds Try.pinned (OpenSpec.ofChange fnMoveOneSpec)

/-- ITS FALSE NEIGHBOUR: 'it returns false'. Refute it at one input. -/
def fnMoveOneWrong : ChangeSpec := { name := "fnMoveOne", fn := fun _ => fun
  | [d] => { results := [.lit (.bool false)], args := [d] }
  | _ => none }
def FnMoveOneWrongFalsely : Prop := fnMoveOneRow.holds Try.pinned (OpenSpec.ofChange fnMoveOneWrong)

/-- 'laws.FnMoveTwice': WHATEVER THE INPUT: true; the input reads as it did. -/
def fnMoveTwiceSpec : ChangeSpec := { name := "fnMoveTwice", fn := fun _ => fun
  | [d] => { results := [.lit (.bool true)], args := [d] }
  | _ => none }
def fnMoveTwiceRow : OpenClaim := { program := "ytjkpphenfcddlaa", sum := "e4cd7133ee2164cf2860da5df2ac7c5c82a55165ed6c5292aa7dae28c6d312c4", func := "loop.example/lib-ringsandslices/laws.FnMoveTwice", spec := "fnMoveTwice", apart := false }
def FnMoveTwiceSaid : Prop := fnMoveTwiceRow.holds Try.pinned (OpenSpec.ofChange fnMoveTwiceSpec)

/-- ITS FALSE NEIGHBOUR: 'it returns false'. Refute it at one input. -/
def fnMoveTwiceWrong : ChangeSpec := { name := "fnMoveTwice", fn := fun _ => fun
  | [d] => { results := [.lit (.bool false)], args := [d] }
  | _ => none }
def FnMoveTwiceWrongFalsely : Prop := fnMoveTwiceRow.holds Try.pinned (OpenSpec.ofChange fnMoveTwiceWrong)

/-- 'laws.FnDoTurn': WHATEVER THE INPUT: true; the input reads as it did. -/
def fnDoTurnSpec : ChangeSpec := { name := "fnDoTurn", fn := fun _ => fun
  | [d] => { results := [.lit (.bool true)], args := [d] }
  | _ => none }
def fnDoTurnRow : OpenClaim := { program := "ytjkpphenfcddlaa", sum := "e4cd7133ee2164cf2860da5df2ac7c5c82a55165ed6c5292aa7dae28c6d312c4", func := "loop.example/lib-ringsandslices/laws.FnDoTurn", spec := "fnDoTurn", unfollowed := true, recurses := true, apart := false }
def FnDoTurnSaid : Prop := fnDoTurnRow.holds Try.pinned (OpenSpec.ofChange fnDoTurnSpec)

/-- ITS FALSE NEIGHBOUR: 'it returns false'. Refute it at one input. -/
def fnDoTurnWrong : ChangeSpec := { name := "fnDoTurn", fn := fun _ => fun
  | [d] => { results := [.lit (.bool false)], args := [d] }
  | _ => none }
def FnDoTurnWrongFalsely : Prop := fnDoTurnRow.holds Try.pinned (OpenSpec.ofChange fnDoTurnWrong)

/-- 'laws.FnNew': WHATEVER THE INPUT: true; the input reads as it did. -/
def fnNewSpec : ChangeSpec := { name := "fnNew", fn := fun _ => fun
  | [d] => { results := [.lit (.bool true)], args := [d] }
  | _ => none }
def fnNewRow : OpenClaim := { program := "ytjkpphenfcddlaa", sum := "e4cd7133ee2164cf2860da5df2ac7c5c82a55165ed6c5292aa7dae28c6d312c4", func := "loop.example/lib-ringsandslices/laws.FnNew", spec := "fnNew", unfollowed := true, recurses := true, apart := false }
def FnNewSaid : Prop := fnNewRow.holds Try.pinned (OpenSpec.ofChange fnNewSpec)

/-- ITS FALSE NEIGHBOUR: 'it returns false'. Refute it at one input. -/
def fnNewWrong : ChangeSpec := { name := "fnNew", fn := fun _ => fun
  | [d] => { results := [.lit (.bool false)], args := [d] }
  | _ => none }
def FnNewWrongFalsely : Prop := fnNewRow.holds Try.pinned (OpenSpec.ofChange fnNewWrong)

/-- 'laws.FnDoMoves': WHATEVER THE INPUT: true; the input reads as it did. -/
def fnDoMovesSpec : ChangeSpec := { name := "fnDoMoves", fn := fun _ => fun
  | [d] => { results := [.lit (.bool true)], args := [d] }
  | _ => none }
def fnDoMovesRow : OpenClaim := { program := "ytjkpphenfcddlaa", sum := "e4cd7133ee2164cf2860da5df2ac7c5c82a55165ed6c5292aa7dae28c6d312c4", func := "loop.example/lib-ringsandslices/laws.FnDoMoves", spec := "fnDoMoves", unfollowed := true, recurses := true, apart := false }
def FnDoMovesSaid : Prop := fnDoMovesRow.holds Try.pinned (OpenSpec.ofChange fnDoMovesSpec)

/-- ITS FALSE NEIGHBOUR: 'it returns false'. Refute it at one input. -/
def fnDoMovesWrong : ChangeSpec := { name := "fnDoMoves", fn := fun _ => fun
  | [d] => { results := [.lit (.bool false)], args := [d] }
  | _ => none }
def FnDoMovesWrongFalsely : Prop := fnDoMovesRow.holds Try.pinned (OpenSpec.ofChange fnDoMovesWrong)

/- THE SECOND FORM. 'bulk': how many values and letters a reading holds, each counted each time it is reached (what is shared counts as often as it is met; a slice's spare places count too). A statement '..UptoSaid' is the law's where the arguments, and the package variables that the reading takes, are together of bulk at most 1048576: NARROWER than '..Said'. Prove '..Said' where nothing that the law and all that it calls make is longer than what came in: it says more and counts as full. Else prove '..UptoSaid'. A law counts once. -/
mutual
def uptoBulk {H : Type} : DataW H → Nat
  | .lit (.string bytes) => bytes.length + 1
  | .lit _ => 1
  | .nil => 1
  | .ptr d => uptoBulk d + 1
  | .slice elems spare => uptoBulkAll elems + uptoBulkAll spare + 1
  | .agg parts => uptoBulkAll parts + 1
  | .iface _ d => uptoBulk d + 1
  | .map entries => uptoBulkEntries entries + 1
  | .held _ => 1
def uptoBulkAll {H : Type} : List (DataW H) → Nat
  | [] => 0
  | d :: r => uptoBulk d + uptoBulkAll r
def uptoBulkEntries {H : Type} : List (Lit × DataW H) → Nat
  | [] => 0
  | x :: r => uptoBulkEntry x + uptoBulkEntries r
def uptoBulkEntry {H : Type} : Lit × DataW H → Nat
  | (.string bytes, d) => bytes.length + uptoBulk d + 1
  | (_, d) => uptoBulk d + 1
 end
def uptoSmall : (H : Type) → List (DataW H) → Bool := fun _ ds => decide (uptoBulkAll ds ≤ 1048576)
def OpenSpec.upto (s : _root_.Go.ChangeSpec) : _root_.Go.OpenSpec := { _root_.Go.OpenSpec.ofChange s with cond := some uptoSmall }

/-- 'laws.FnExactDo', WHERE WHAT IT READS IS OF BULK AT MOST 1048576: true; the input reads as it did. -/
def fnExactDoUptoRow : OpenClaim := { program := "ytjkpphenfcddlaa", sum := "e4cd7133ee2164cf2860da5df2ac7c5c82a55165ed6c5292aa7dae28c6d312c4", func := "loop.example/lib-ringsandslices/laws.FnExactDo", spec := "fnExactDo", unfollowed := true, recurses := true, apart := false, narrowed := true }
def FnExactDoUptoSaid : Prop := fnExactDoUptoRow.holds Try.pinned (OpenSpec.upto fnExactDoSpec)

/-- 'laws.FnExactDoRing', WHERE WHAT IT READS IS OF BULK AT MOST 1048576: true; the input reads as it did. -/
def fnExactDoRingUptoRow : OpenClaim := { program := "ytjkpphenfcddlaa", sum := "e4cd7133ee2164cf2860da5df2ac7c5c82a55165ed6c5292aa7dae28c6d312c4", func := "loop.example/lib-ringsandslices/laws.FnExactDoRing", spec := "fnExactDoRing", unfollowed := true, recurses := true, apart := false, narrowed := true }
def FnExactDoRingUptoSaid : Prop := fnExactDoRingUptoRow.holds Try.pinned (OpenSpec.upto fnExactDoRingSpec)

/-- 'laws.FnNextPrev', WHERE WHAT IT READS IS OF BULK AT MOST 1048576: true; the input reads as it did. -/
def fnNextPrevUptoRow : OpenClaim := { program := "ytjkpphenfcddlaa", sum := "e4cd7133ee2164cf2860da5df2ac7c5c82a55165ed6c5292aa7dae28c6d312c4", func := "loop.example/lib-ringsandslices/laws.FnNextPrev", spec := "fnNextPrev", apart := false, narrowed := true }
def FnNextPrevUptoSaid : Prop := fnNextPrevUptoRow.holds Try.pinned (OpenSpec.upto fnNextPrevSpec)

/-- 'laws.FnMoveOne', WHERE WHAT IT READS IS OF BULK AT MOST 1048576: true; the input reads as it did. -/
def fnMoveOneUptoRow : OpenClaim := { program := "ytjkpphenfcddlaa", sum := "e4cd7133ee2164cf2860da5df2ac7c5c82a55165ed6c5292aa7dae28c6d312c4", func := "loop.example/lib-ringsandslices/laws.FnMoveOne", spec := "fnMoveOne", apart := false, narrowed := true }
def FnMoveOneUptoSaid : Prop := fnMoveOneUptoRow.holds Try.pinned (OpenSpec.upto fnMoveOneSpec)

/-- 'laws.FnMoveTwice', WHERE WHAT IT READS IS OF BULK AT MOST 1048576: true; the input reads as it did. -/
def fnMoveTwiceUptoRow : OpenClaim := { program := "ytjkpphenfcddlaa", sum := "e4cd7133ee2164cf2860da5df2ac7c5c82a55165ed6c5292aa7dae28c6d312c4", func := "loop.example/lib-ringsandslices/laws.FnMoveTwice", spec := "fnMoveTwice", apart := false, narrowed := true }
def FnMoveTwiceUptoSaid : Prop := fnMoveTwiceUptoRow.holds Try.pinned (OpenSpec.upto fnMoveTwiceSpec)

/-- 'laws.FnDoTurn', WHERE WHAT IT READS IS OF BULK AT MOST 1048576: true; the input reads as it did. -/
def fnDoTurnUptoRow : OpenClaim := { program := "ytjkpphenfcddlaa", sum := "e4cd7133ee2164cf2860da5df2ac7c5c82a55165ed6c5292aa7dae28c6d312c4", func := "loop.example/lib-ringsandslices/laws.FnDoTurn", spec := "fnDoTurn", unfollowed := true, recurses := true, apart := false, narrowed := true }
def FnDoTurnUptoSaid : Prop := fnDoTurnUptoRow.holds Try.pinned (OpenSpec.upto fnDoTurnSpec)

/-- 'laws.FnNew', WHERE WHAT IT READS IS OF BULK AT MOST 1048576: true; the input reads as it did. -/
def fnNewUptoRow : OpenClaim := { program := "ytjkpphenfcddlaa", sum := "e4cd7133ee2164cf2860da5df2ac7c5c82a55165ed6c5292aa7dae28c6d312c4", func := "loop.example/lib-ringsandslices/laws.FnNew", spec := "fnNew", unfollowed := true, recurses := true, apart := false, narrowed := true }
def FnNewUptoSaid : Prop := fnNewUptoRow.holds Try.pinned (OpenSpec.upto fnNewSpec)

/-- 'laws.FnDoMoves', WHERE WHAT IT READS IS OF BULK AT MOST 1048576: true; the input reads as it did. -/
def fnDoMovesUptoRow : OpenClaim := { program := "ytjkpphenfcddlaa", sum := "e4cd7133ee2164cf2860da5df2ac7c5c82a55165ed6c5292aa7dae28c6d312c4", func := "loop.example/lib-ringsandslices/laws.FnDoMoves", spec := "fnDoMoves", unfollowed := true, recurses := true, apart := false, narrowed := true }
def FnDoMovesUptoSaid : Prop := fnDoMovesUptoRow.holds Try.pinned (OpenSpec.upto fnDoMovesSpec)

end Rows
end Go.Proofs.Ytjkpphenfcddlaa

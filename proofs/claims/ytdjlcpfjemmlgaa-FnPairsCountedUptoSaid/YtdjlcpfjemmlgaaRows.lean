/-
  No cell of these rows narrows 'for every input' (looked for: loops, veiled, ifaces, maps, wideKeys, modest, calm, conditions, laid).
  DERIVED. THE GIVEN ROWS OF THIS SEAT. 12 by the template 'for every input the law returns true; each argument reads behind the call as it read before'; 0 by the template 'total and deterministic' (their statements: YtdjlcpfjemmlgaaTotals.lean).
  GIVEN WITH THE SEED: the statements are not yours to turn. If you find one false, say at which input.
  Laid BY PROGRAM, IN A SANDBOX (cutbox-rows.mjs): the forced cells as the released guide's own fill.sh prints them over the translation 2e396157bb5bf111… (all of the seat's roots in one cut). By AI agents, Wed Nov 11 2026. No macro, syntax, notation, axiom, sorry.
-/
import Derived.Test.YtdjlcpfjemmlgaaChecked
import GoSem.Claim
import GoSem.ClaimJoined
import GoSem.ClaimMapViews
import Derived.JoinedTies
import Derived.KernelRfl
namespace Go.Proofs.Ytdjlcpfjemmlgaa
/- THE CELL 'sum', in the pinned program and in every row, IS THE sha256 OF THE DUMP (.gsa) THAT YtdjlcpfjemmlgaaProg.lean LOADS. Nothing in Lean hashes anything: it is a label: what it is worth is what the hold of that sum in a sandbox is worth. -/
noncomputable def Try.pinned : Pinned := { name := "ytdjlcpfjemmlgaa", sum := "2e396157bb5bf11187ac7ffe0d131e732707f2a5c7950b9cd532c1e6b70f1b71", checked := Try.checked }
namespace Rows
def none {H : Type} : Left H := { results := [], args := [] }

/-- 'laws.FnPairsCounted': WHATEVER THE INPUT: true; the input reads as it did. -/
def fnPairsCountedSpec : ChangeSpec := { name := "fnPairsCounted", fn := fun _ => fun
  | [d1, d2, d3, d4] => { results := [.lit (.bool true)], args := [d1, d2, d3, d4] }
  | _ => none }
def fnPairsCountedRow : OpenClaim := { program := "ytdjlcpfjemmlgaa", sum := "2e396157bb5bf11187ac7ffe0d131e732707f2a5c7950b9cd532c1e6b70f1b71", func := "lib-rankfinder/laws.FnPairsCounted", spec := "fnPairsCounted", unfollowed := true, recurses := true, apart := false }
def FnPairsCountedSaid : Prop := fnPairsCountedRow.holds Try.pinned (OpenSpec.ofChange fnPairsCountedSpec)

/-- ITS FALSE NEIGHBOUR: 'it returns false'. Refute it at one input. -/
def fnPairsCountedWrong : ChangeSpec := { name := "fnPairsCounted", fn := fun _ => fun
  | [d1, d2, d3, d4] => { results := [.lit (.bool false)], args := [d1, d2, d3, d4] }
  | _ => none }
def FnPairsCountedWrongFalsely : Prop := fnPairsCountedRow.holds Try.pinned (OpenSpec.ofChange fnPairsCountedWrong)

/-- 'laws.FnSearch': WHATEVER THE INPUT: true; the input reads as it did. -/
def fnSearchSpec : ChangeSpec := { name := "fnSearch", fn := fun _ => fun
  | [d1, d2] => { results := [.lit (.bool true)], args := [d1, d2] }
  | _ => none }
def fnSearchRow : OpenClaim := { program := "ytdjlcpfjemmlgaa", sum := "2e396157bb5bf11187ac7ffe0d131e732707f2a5c7950b9cd532c1e6b70f1b71", func := "lib-rankfinder/laws.FnSearch", spec := "fnSearch", unfollowed := true, recurses := true, apart := false }
def FnSearchSaid : Prop := fnSearchRow.holds Try.pinned (OpenSpec.ofChange fnSearchSpec)

/-- ITS FALSE NEIGHBOUR: 'it returns false'. Refute it at one input. -/
def fnSearchWrong : ChangeSpec := { name := "fnSearch", fn := fun _ => fun
  | [d1, d2] => { results := [.lit (.bool false)], args := [d1, d2] }
  | _ => none }
def FnSearchWrongFalsely : Prop := fnSearchRow.holds Try.pinned (OpenSpec.ofChange fnSearchWrong)

/-- 'laws.FnSearchBoth': WHATEVER THE INPUT: true; the input reads as it did. -/
def fnSearchBothSpec : ChangeSpec := { name := "fnSearchBoth", fn := fun _ => fun
  | [d1, d2] => { results := [.lit (.bool true)], args := [d1, d2] }
  | _ => none }
def fnSearchBothRow : OpenClaim := { program := "ytdjlcpfjemmlgaa", sum := "2e396157bb5bf11187ac7ffe0d131e732707f2a5c7950b9cd532c1e6b70f1b71", func := "lib-rankfinder/laws.FnSearchBoth", spec := "fnSearchBoth", unfollowed := true, recurses := true, apart := false }
def FnSearchBothSaid : Prop := fnSearchBothRow.holds Try.pinned (OpenSpec.ofChange fnSearchBothSpec)

/-- ITS FALSE NEIGHBOUR: 'it returns false'. Refute it at one input. -/
def fnSearchBothWrong : ChangeSpec := { name := "fnSearchBoth", fn := fun _ => fun
  | [d1, d2] => { results := [.lit (.bool false)], args := [d1, d2] }
  | _ => none }
def FnSearchBothWrongFalsely : Prop := fnSearchBothRow.holds Try.pinned (OpenSpec.ofChange fnSearchBothWrong)

/-- 'laws.FnSearchSorted': WHATEVER THE INPUT: true; the input reads as it did. -/
def fnSearchSortedSpec : ChangeSpec := { name := "fnSearchSorted", fn := fun _ => fun
  | [d1, d2, d3, d4] => { results := [.lit (.bool true)], args := [d1, d2, d3, d4] }
  | _ => none }
def fnSearchSortedRow : OpenClaim := { program := "ytdjlcpfjemmlgaa", sum := "2e396157bb5bf11187ac7ffe0d131e732707f2a5c7950b9cd532c1e6b70f1b71", func := "lib-rankfinder/laws.FnSearchSorted", spec := "fnSearchSorted", unfollowed := true, recurses := true, apart := false }
def FnSearchSortedSaid : Prop := fnSearchSortedRow.holds Try.pinned (OpenSpec.ofChange fnSearchSortedSpec)

/-- ITS FALSE NEIGHBOUR: 'it returns false'. Refute it at one input. -/
def fnSearchSortedWrong : ChangeSpec := { name := "fnSearchSorted", fn := fun _ => fun
  | [d1, d2, d3, d4] => { results := [.lit (.bool false)], args := [d1, d2, d3, d4] }
  | _ => none }
def FnSearchSortedWrongFalsely : Prop := fnSearchSortedRow.holds Try.pinned (OpenSpec.ofChange fnSearchSortedWrong)

/-- 'laws.FnSearchSplit': WHATEVER THE INPUT: true; the input reads as it did. -/
def fnSearchSplitSpec : ChangeSpec := { name := "fnSearchSplit", fn := fun _ => fun
  | [d1, d2] => { results := [.lit (.bool true)], args := [d1, d2] }
  | _ => none }
def fnSearchSplitRow : OpenClaim := { program := "ytdjlcpfjemmlgaa", sum := "2e396157bb5bf11187ac7ffe0d131e732707f2a5c7950b9cd532c1e6b70f1b71", func := "lib-rankfinder/laws.FnSearchSplit", spec := "fnSearchSplit", unfollowed := true, recurses := true, apart := false }
def FnSearchSplitSaid : Prop := fnSearchSplitRow.holds Try.pinned (OpenSpec.ofChange fnSearchSplitSpec)

/-- ITS FALSE NEIGHBOUR: 'it returns false'. Refute it at one input. -/
def fnSearchSplitWrong : ChangeSpec := { name := "fnSearchSplit", fn := fun _ => fun
  | [d1, d2] => { results := [.lit (.bool false)], args := [d1, d2] }
  | _ => none }
def FnSearchSplitWrongFalsely : Prop := fnSearchSplitRow.holds Try.pinned (OpenSpec.ofChange fnSearchSplitWrong)

/-- 'laws.FnSearchThinned': WHATEVER THE INPUT: true; the input reads as it did. -/
def fnSearchThinnedSpec : ChangeSpec := { name := "fnSearchThinned", fn := fun _ => fun
  | [d1, d2] => { results := [.lit (.bool true)], args := [d1, d2] }
  | _ => none }
def fnSearchThinnedRow : OpenClaim := { program := "ytdjlcpfjemmlgaa", sum := "2e396157bb5bf11187ac7ffe0d131e732707f2a5c7950b9cd532c1e6b70f1b71", func := "lib-rankfinder/laws.FnSearchThinned", spec := "fnSearchThinned", unfollowed := true, recurses := true, apart := false }
def FnSearchThinnedSaid : Prop := fnSearchThinnedRow.holds Try.pinned (OpenSpec.ofChange fnSearchThinnedSpec)

/-- ITS FALSE NEIGHBOUR: 'it returns false'. Refute it at one input. -/
def fnSearchThinnedWrong : ChangeSpec := { name := "fnSearchThinned", fn := fun _ => fun
  | [d1, d2] => { results := [.lit (.bool false)], args := [d1, d2] }
  | _ => none }
def FnSearchThinnedWrongFalsely : Prop := fnSearchThinnedRow.holds Try.pinned (OpenSpec.ofChange fnSearchThinnedWrong)

/-- 'laws.FnSearchTurned': WHATEVER THE INPUT: true; the input reads as it did. -/
def fnSearchTurnedSpec : ChangeSpec := { name := "fnSearchTurned", fn := fun _ => fun
  | [d] => { results := [.lit (.bool true)], args := [d] }
  | _ => none }
def fnSearchTurnedRow : OpenClaim := { program := "ytdjlcpfjemmlgaa", sum := "2e396157bb5bf11187ac7ffe0d131e732707f2a5c7950b9cd532c1e6b70f1b71", func := "lib-rankfinder/laws.FnSearchTurned", spec := "fnSearchTurned", unfollowed := true, recurses := true, apart := false }
def FnSearchTurnedSaid : Prop := fnSearchTurnedRow.holds Try.pinned (OpenSpec.ofChange fnSearchTurnedSpec)

/-- ITS FALSE NEIGHBOUR: 'it returns false'. Refute it at one input. -/
def fnSearchTurnedWrong : ChangeSpec := { name := "fnSearchTurned", fn := fun _ => fun
  | [d] => { results := [.lit (.bool false)], args := [d] }
  | _ => none }
def FnSearchTurnedWrongFalsely : Prop := fnSearchTurnedRow.holds Try.pinned (OpenSpec.ofChange fnSearchTurnedWrong)

/-- 'laws.FnFind': WHATEVER THE INPUT: true; the input reads as it did. -/
def fnFindSpec : ChangeSpec := { name := "fnFind", fn := fun _ => fun
  | [d1, d2] => { results := [.lit (.bool true)], args := [d1, d2] }
  | _ => none }
def fnFindRow : OpenClaim := { program := "ytdjlcpfjemmlgaa", sum := "2e396157bb5bf11187ac7ffe0d131e732707f2a5c7950b9cd532c1e6b70f1b71", func := "lib-rankfinder/laws.FnFind", spec := "fnFind", unfollowed := true, recurses := true, apart := false }
def FnFindSaid : Prop := fnFindRow.holds Try.pinned (OpenSpec.ofChange fnFindSpec)

/-- ITS FALSE NEIGHBOUR: 'it returns false'. Refute it at one input. -/
def fnFindWrong : ChangeSpec := { name := "fnFind", fn := fun _ => fun
  | [d1, d2] => { results := [.lit (.bool false)], args := [d1, d2] }
  | _ => none }
def FnFindWrongFalsely : Prop := fnFindRow.holds Try.pinned (OpenSpec.ofChange fnFindWrong)

/-- 'laws.FnFindScaled': WHATEVER THE INPUT: true; the input reads as it did. -/
def fnFindScaledSpec : ChangeSpec := { name := "fnFindScaled", fn := fun _ => fun
  | [d1, d2, d3] => { results := [.lit (.bool true)], args := [d1, d2, d3] }
  | _ => none }
def fnFindScaledRow : OpenClaim := { program := "ytdjlcpfjemmlgaa", sum := "2e396157bb5bf11187ac7ffe0d131e732707f2a5c7950b9cd532c1e6b70f1b71", func := "lib-rankfinder/laws.FnFindScaled", spec := "fnFindScaled", unfollowed := true, recurses := true, apart := false }
def FnFindScaledSaid : Prop := fnFindScaledRow.holds Try.pinned (OpenSpec.ofChange fnFindScaledSpec)

/-- ITS FALSE NEIGHBOUR: 'it returns false'. Refute it at one input. -/
def fnFindScaledWrong : ChangeSpec := { name := "fnFindScaled", fn := fun _ => fun
  | [d1, d2, d3] => { results := [.lit (.bool false)], args := [d1, d2, d3] }
  | _ => none }
def FnFindScaledWrongFalsely : Prop := fnFindScaledRow.holds Try.pinned (OpenSpec.ofChange fnFindScaledWrong)

/-- 'laws.FnFindTurned': WHATEVER THE INPUT: true; the input reads as it did. -/
def fnFindTurnedSpec : ChangeSpec := { name := "fnFindTurned", fn := fun _ => fun
  | [d] => { results := [.lit (.bool true)], args := [d] }
  | _ => none }
def fnFindTurnedRow : OpenClaim := { program := "ytdjlcpfjemmlgaa", sum := "2e396157bb5bf11187ac7ffe0d131e732707f2a5c7950b9cd532c1e6b70f1b71", func := "lib-rankfinder/laws.FnFindTurned", spec := "fnFindTurned", unfollowed := true, recurses := true, apart := false }
def FnFindTurnedSaid : Prop := fnFindTurnedRow.holds Try.pinned (OpenSpec.ofChange fnFindTurnedSpec)

/-- ITS FALSE NEIGHBOUR: 'it returns false'. Refute it at one input. -/
def fnFindTurnedWrong : ChangeSpec := { name := "fnFindTurned", fn := fun _ => fun
  | [d] => { results := [.lit (.bool false)], args := [d] }
  | _ => none }
def FnFindTurnedWrongFalsely : Prop := fnFindTurnedRow.holds Try.pinned (OpenSpec.ofChange fnFindTurnedWrong)

/-- 'laws.FnFindIsSearch': WHATEVER THE INPUT: true; the input reads as it did. -/
def fnFindIsSearchSpec : ChangeSpec := { name := "fnFindIsSearch", fn := fun _ => fun
  | [d] => { results := [.lit (.bool true)], args := [d] }
  | _ => none }
def fnFindIsSearchRow : OpenClaim := { program := "ytdjlcpfjemmlgaa", sum := "2e396157bb5bf11187ac7ffe0d131e732707f2a5c7950b9cd532c1e6b70f1b71", func := "lib-rankfinder/laws.FnFindIsSearch", spec := "fnFindIsSearch", unfollowed := true, recurses := true, apart := false }
def FnFindIsSearchSaid : Prop := fnFindIsSearchRow.holds Try.pinned (OpenSpec.ofChange fnFindIsSearchSpec)

/-- ITS FALSE NEIGHBOUR: 'it returns false'. Refute it at one input. -/
def fnFindIsSearchWrong : ChangeSpec := { name := "fnFindIsSearch", fn := fun _ => fun
  | [d] => { results := [.lit (.bool false)], args := [d] }
  | _ => none }
def FnFindIsSearchWrongFalsely : Prop := fnFindIsSearchRow.holds Try.pinned (OpenSpec.ofChange fnFindIsSearchWrong)

/-- 'laws.FnSearchFirst': WHATEVER THE INPUT: true; the input reads as it did. -/
def fnSearchFirstSpec : ChangeSpec := { name := "fnSearchFirst", fn := fun _ => fun
  | [d1, d2, d3] => { results := [.lit (.bool true)], args := [d1, d2, d3] }
  | _ => none }
def fnSearchFirstRow : OpenClaim := { program := "ytdjlcpfjemmlgaa", sum := "2e396157bb5bf11187ac7ffe0d131e732707f2a5c7950b9cd532c1e6b70f1b71", func := "lib-rankfinder/laws.FnSearchFirst", spec := "fnSearchFirst", unfollowed := true, recurses := true, apart := false }
def FnSearchFirstSaid : Prop := fnSearchFirstRow.holds Try.pinned (OpenSpec.ofChange fnSearchFirstSpec)

/-- ITS FALSE NEIGHBOUR: 'it returns false'. Refute it at one input. -/
def fnSearchFirstWrong : ChangeSpec := { name := "fnSearchFirst", fn := fun _ => fun
  | [d1, d2, d3] => { results := [.lit (.bool false)], args := [d1, d2, d3] }
  | _ => none }
def FnSearchFirstWrongFalsely : Prop := fnSearchFirstRow.holds Try.pinned (OpenSpec.ofChange fnSearchFirstWrong)

/- THE SECOND FORM. 'bulk': how many values and letters a reading holds, each counted each time it is reached (what is shared counts as often as it is met; a slice's spare places count too). A statement '..UptoSaid' is the law's where the arguments, and the package variables that the reading takes, are together of bulk at most 1048576: NARROWER than '..Said'. Prove '..Said' where nothing that the law and all that it calls make is longer than what came in: it says more and counts as full. Else prove '..UptoSaid'. A law counts once. -/
mutual
def uptoBulk {H : Type} : DataW H → Nat
  | .lit (.string bytes) => bytes.length + 1
  | .lit _ => 1
  | .nil => 1
  | .ptr d => uptoBulk d + 1
  | .slice elems spare => uptoBulkAll elems + uptoBulkAll spare + 1
  | .agg parts => uptoBulkAll parts + 1
  | .iface _ d => uptoBulk d + 1
  | .map entries => uptoBulkEntries entries + 1
  | .held _ => 1
def uptoBulkAll {H : Type} : List (DataW H) → Nat
  | [] => 0
  | d :: r => uptoBulk d + uptoBulkAll r
def uptoBulkEntries {H : Type} : List (Lit × DataW H) → Nat
  | [] => 0
  | x :: r => uptoBulkEntry x + uptoBulkEntries r
def uptoBulkEntry {H : Type} : Lit × DataW H → Nat
  | (.string bytes, d) => bytes.length + uptoBulk d + 1
  | (_, d) => uptoBulk d + 1
 end
def uptoSmall : (H : Type) → List (DataW H) → Bool := fun _ ds => decide (uptoBulkAll ds ≤ 1048576)
def OpenSpec.upto (s : _root_.Go.ChangeSpec) : _root_.Go.OpenSpec := { _root_.Go.OpenSpec.ofChange s with cond := some uptoSmall }

/-- 'laws.FnPairsCounted', WHERE WHAT IT READS IS OF BULK AT MOST 1048576: true; the input reads as it did. -/
def fnPairsCountedUptoRow : OpenClaim := { program := "ytdjlcpfjemmlgaa", sum := "2e396157bb5bf11187ac7ffe0d131e732707f2a5c7950b9cd532c1e6b70f1b71", func := "lib-rankfinder/laws.FnPairsCounted", spec := "fnPairsCounted", unfollowed := true, recurses := true, apart := false, narrowed := true }
def FnPairsCountedUptoSaid : Prop := fnPairsCountedUptoRow.holds Try.pinned (OpenSpec.upto fnPairsCountedSpec)

/-- 'laws.FnSearch', WHERE WHAT IT READS IS OF BULK AT MOST 1048576: true; the input reads as it did. -/
def fnSearchUptoRow : OpenClaim := { program := "ytdjlcpfjemmlgaa", sum := "2e396157bb5bf11187ac7ffe0d131e732707f2a5c7950b9cd532c1e6b70f1b71", func := "lib-rankfinder/laws.FnSearch", spec := "fnSearch", unfollowed := true, recurses := true, apart := false, narrowed := true }
def FnSearchUptoSaid : Prop := fnSearchUptoRow.holds Try.pinned (OpenSpec.upto fnSearchSpec)

/-- 'laws.FnSearchBoth', WHERE WHAT IT READS IS OF BULK AT MOST 1048576: true; the input reads as it did. -/
def fnSearchBothUptoRow : OpenClaim := { program := "ytdjlcpfjemmlgaa", sum := "2e396157bb5bf11187ac7ffe0d131e732707f2a5c7950b9cd532c1e6b70f1b71", func := "lib-rankfinder/laws.FnSearchBoth", spec := "fnSearchBoth", unfollowed := true, recurses := true, apart := false, narrowed := true }
def FnSearchBothUptoSaid : Prop := fnSearchBothUptoRow.holds Try.pinned (OpenSpec.upto fnSearchBothSpec)

/-- 'laws.FnSearchSorted', WHERE WHAT IT READS IS OF BULK AT MOST 1048576: true; the input reads as it did. -/
def fnSearchSortedUptoRow : OpenClaim := { program := "ytdjlcpfjemmlgaa", sum := "2e396157bb5bf11187ac7ffe0d131e732707f2a5c7950b9cd532c1e6b70f1b71", func := "lib-rankfinder/laws.FnSearchSorted", spec := "fnSearchSorted", unfollowed := true, recurses := true, apart := false, narrowed := true }
def FnSearchSortedUptoSaid : Prop := fnSearchSortedUptoRow.holds Try.pinned (OpenSpec.upto fnSearchSortedSpec)

/-- 'laws.FnSearchSplit', WHERE WHAT IT READS IS OF BULK AT MOST 1048576: true; the input reads as it did. -/
def fnSearchSplitUptoRow : OpenClaim := { program := "ytdjlcpfjemmlgaa", sum := "2e396157bb5bf11187ac7ffe0d131e732707f2a5c7950b9cd532c1e6b70f1b71", func := "lib-rankfinder/laws.FnSearchSplit", spec := "fnSearchSplit", unfollowed := true, recurses := true, apart := false, narrowed := true }
def FnSearchSplitUptoSaid : Prop := fnSearchSplitUptoRow.holds Try.pinned (OpenSpec.upto fnSearchSplitSpec)

/-- 'laws.FnSearchThinned', WHERE WHAT IT READS IS OF BULK AT MOST 1048576: true; the input reads as it did. -/
def fnSearchThinnedUptoRow : OpenClaim := { program := "ytdjlcpfjemmlgaa", sum := "2e396157bb5bf11187ac7ffe0d131e732707f2a5c7950b9cd532c1e6b70f1b71", func := "lib-rankfinder/laws.FnSearchThinned", spec := "fnSearchThinned", unfollowed := true, recurses := true, apart := false, narrowed := true }
def FnSearchThinnedUptoSaid : Prop := fnSearchThinnedUptoRow.holds Try.pinned (OpenSpec.upto fnSearchThinnedSpec)

/-- 'laws.FnSearchTurned', WHERE WHAT IT READS IS OF BULK AT MOST 1048576: true; the input reads as it did. -/
def fnSearchTurnedUptoRow : OpenClaim := { program := "ytdjlcpfjemmlgaa", sum := "2e396157bb5bf11187ac7ffe0d131e732707f2a5c7950b9cd532c1e6b70f1b71", func := "lib-rankfinder/laws.FnSearchTurned", spec := "fnSearchTurned", unfollowed := true, recurses := true, apart := false, narrowed := true }
def FnSearchTurnedUptoSaid : Prop := fnSearchTurnedUptoRow.holds Try.pinned (OpenSpec.upto fnSearchTurnedSpec)

/-- 'laws.FnFind', WHERE WHAT IT READS IS OF BULK AT MOST 1048576: true; the input reads as it did. -/
def fnFindUptoRow : OpenClaim := { program := "ytdjlcpfjemmlgaa", sum := "2e396157bb5bf11187ac7ffe0d131e732707f2a5c7950b9cd532c1e6b70f1b71", func := "lib-rankfinder/laws.FnFind", spec := "fnFind", unfollowed := true, recurses := true, apart := false, narrowed := true }
def FnFindUptoSaid : Prop := fnFindUptoRow.holds Try.pinned (OpenSpec.upto fnFindSpec)

/-- 'laws.FnFindScaled', WHERE WHAT IT READS IS OF BULK AT MOST 1048576: true; the input reads as it did. -/
def fnFindScaledUptoRow : OpenClaim := { program := "ytdjlcpfjemmlgaa", sum := "2e396157bb5bf11187ac7ffe0d131e732707f2a5c7950b9cd532c1e6b70f1b71", func := "lib-rankfinder/laws.FnFindScaled", spec := "fnFindScaled", unfollowed := true, recurses := true, apart := false, narrowed := true }
def FnFindScaledUptoSaid : Prop := fnFindScaledUptoRow.holds Try.pinned (OpenSpec.upto fnFindScaledSpec)

/-- 'laws.FnFindTurned', WHERE WHAT IT READS IS OF BULK AT MOST 1048576: true; the input reads as it did. -/
def fnFindTurnedUptoRow : OpenClaim := { program := "ytdjlcpfjemmlgaa", sum := "2e396157bb5bf11187ac7ffe0d131e732707f2a5c7950b9cd532c1e6b70f1b71", func := "lib-rankfinder/laws.FnFindTurned", spec := "fnFindTurned", unfollowed := true, recurses := true, apart := false, narrowed := true }
def FnFindTurnedUptoSaid : Prop := fnFindTurnedUptoRow.holds Try.pinned (OpenSpec.upto fnFindTurnedSpec)

/-- 'laws.FnFindIsSearch', WHERE WHAT IT READS IS OF BULK AT MOST 1048576: true; the input reads as it did. -/
def fnFindIsSearchUptoRow : OpenClaim := { program := "ytdjlcpfjemmlgaa", sum := "2e396157bb5bf11187ac7ffe0d131e732707f2a5c7950b9cd532c1e6b70f1b71", func := "lib-rankfinder/laws.FnFindIsSearch", spec := "fnFindIsSearch", unfollowed := true, recurses := true, apart := false, narrowed := true }
def FnFindIsSearchUptoSaid : Prop := fnFindIsSearchUptoRow.holds Try.pinned (OpenSpec.upto fnFindIsSearchSpec)

/-- 'laws.FnSearchFirst', WHERE WHAT IT READS IS OF BULK AT MOST 1048576: true; the input reads as it did. -/
def fnSearchFirstUptoRow : OpenClaim := { program := "ytdjlcpfjemmlgaa", sum := "2e396157bb5bf11187ac7ffe0d131e732707f2a5c7950b9cd532c1e6b70f1b71", func := "lib-rankfinder/laws.FnSearchFirst", spec := "fnSearchFirst", unfollowed := true, recurses := true, apart := false, narrowed := true }
def FnSearchFirstUptoSaid : Prop := fnSearchFirstUptoRow.holds Try.pinned (OpenSpec.upto fnSearchFirstSpec)

end Rows
end Go.Proofs.Ytdjlcpfjemmlgaa

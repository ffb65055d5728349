/-
  No cell of these rows narrows 'for every input' (looked for: loops, veiled, ifaces, maps, wideKeys, modest, calm, conditions, laid).
  DERIVED. THE GIVEN ROWS OF THIS SEAT. 10 by the template 'for every input the law returns true; each argument reads behind the call as it read before'; 0 by the template 'total and deterministic' (their statements: YtdojnocmapkodaaTotals.lean).
  GIVEN WITH THE SEED: the statements are not yours to turn. If you find one false, say at which input.
  Laid BY PROGRAM, IN A SANDBOX (cutbox-rows.mjs): the forced cells as the released guide's own fill.sh prints them over the translation e1add681563b5c29… (all of the seat's roots in one cut). By AI agents, Wed Nov 11 2026. No macro, syntax, notation, axiom, sorry.
-/
import Derived.Test.YtdojnocmapkodaaChecked
import GoSem.Claim
import GoSem.ClaimJoined
import GoSem.ClaimMapViews
import Derived.JoinedTies
import Derived.KernelRfl
namespace Go.Proofs.Ytdojnocmapkodaa
/- THE CELL 'sum', in the pinned program and in every row, IS THE sha256 OF THE DUMP (.gsa) THAT YtdojnocmapkodaaProg.lean LOADS. Nothing in Lean hashes anything: it is a label: what it is worth is what the hold of that sum in a sandbox is worth. -/
noncomputable def Try.pinned : Pinned := { name := "ytdojnocmapkodaa", sum := "e1add681563b5c2916c26e8c5155601fa897b16082075c1655eb16a86e5a3662", checked := Try.checked }
namespace Rows
def none {H : Type} : Left H := { results := [], args := [] }

/-- 'laws.FnInverse': WHATEVER THE INPUT: true; the input reads as it did. -/
def fnInverseSpec : ChangeSpec := { name := "fnInverse", fn := fun _ => fun
  | [d1, d2] => { results := [.lit (.bool true)], args := [d1, d2] }
  | _ => none }
def fnInverseRow : OpenClaim := { program := "ytdojnocmapkodaa", sum := "e1add681563b5c2916c26e8c5155601fa897b16082075c1655eb16a86e5a3662", func := "lib-rankfinder/laws.FnInverse", spec := "fnInverse", unfollowed := true, recurses := true, apart := false }
def FnInverseSaid : Prop := fnInverseRow.holds Try.pinned (OpenSpec.ofChange fnInverseSpec)

/-- ITS FALSE NEIGHBOUR: 'it returns false'. Refute it at one input. -/
def fnInverseWrong : ChangeSpec := { name := "fnInverse", fn := fun _ => fun
  | [d1, d2] => { results := [.lit (.bool false)], args := [d1, d2] }
  | _ => none }
def FnInverseWrongFalsely : Prop := fnInverseRow.holds Try.pinned (OpenSpec.ofChange fnInverseWrong)

/-- 'laws.FnLaterAgain': WHATEVER THE INPUT: true; the input reads as it did. -/
def fnLaterAgainSpec : ChangeSpec := { name := "fnLaterAgain", fn := fun _ => fun
  | [d1, d2, d3, d4] => { results := [.lit (.bool true)], args := [d1, d2, d3, d4] }
  | _ => none }
def fnLaterAgainRow : OpenClaim := { program := "ytdojnocmapkodaa", sum := "e1add681563b5c2916c26e8c5155601fa897b16082075c1655eb16a86e5a3662", func := "lib-rankfinder/laws.FnLaterAgain", spec := "fnLaterAgain", unfollowed := true, recurses := true, apart := false }
def FnLaterAgainSaid : Prop := fnLaterAgainRow.holds Try.pinned (OpenSpec.ofChange fnLaterAgainSpec)

/-- ITS FALSE NEIGHBOUR: 'it returns false'. Refute it at one input. -/
def fnLaterAgainWrong : ChangeSpec := { name := "fnLaterAgain", fn := fun _ => fun
  | [d1, d2, d3, d4] => { results := [.lit (.bool false)], args := [d1, d2, d3, d4] }
  | _ => none }
def FnLaterAgainWrongFalsely : Prop := fnLaterAgainRow.holds Try.pinned (OpenSpec.ofChange fnLaterAgainWrong)

/-- 'laws.FnStableSteps': WHATEVER THE INPUT: true; the input reads as it did. -/
def fnStableStepsSpec : ChangeSpec := { name := "fnStableSteps", fn := fun _ => fun
  | [d1, d2] => { results := [.lit (.bool true)], args := [d1, d2] }
  | _ => none }
def fnStableStepsRow : OpenClaim := { program := "ytdojnocmapkodaa", sum := "e1add681563b5c2916c26e8c5155601fa897b16082075c1655eb16a86e5a3662", func := "lib-rankfinder/laws.FnStableSteps", spec := "fnStableSteps", unfollowed := true, recurses := true, apart := false }
def FnStableStepsSaid : Prop := fnStableStepsRow.holds Try.pinned (OpenSpec.ofChange fnStableStepsSpec)

/-- ITS FALSE NEIGHBOUR: 'it returns false'. Refute it at one input. -/
def fnStableStepsWrong : ChangeSpec := { name := "fnStableSteps", fn := fun _ => fun
  | [d1, d2] => { results := [.lit (.bool false)], args := [d1, d2] }
  | _ => none }
def FnStableStepsWrongFalsely : Prop := fnStableStepsRow.holds Try.pinned (OpenSpec.ofChange fnStableStepsWrong)

/-- 'laws.FnOppositeAfter': WHATEVER THE INPUT: true; the input reads as it did. -/
def fnOppositeAfterSpec : ChangeSpec := { name := "fnOppositeAfter", fn := fun _ => fun
  | [d1, d2] => { results := [.lit (.bool true)], args := [d1, d2] }
  | _ => none }
def fnOppositeAfterRow : OpenClaim := { program := "ytdojnocmapkodaa", sum := "e1add681563b5c2916c26e8c5155601fa897b16082075c1655eb16a86e5a3662", func := "lib-rankfinder/laws.FnOppositeAfter", spec := "fnOppositeAfter", unfollowed := true, recurses := true, apart := false }
def FnOppositeAfterSaid : Prop := fnOppositeAfterRow.holds Try.pinned (OpenSpec.ofChange fnOppositeAfterSpec)

/-- ITS FALSE NEIGHBOUR: 'it returns false'. Refute it at one input. -/
def fnOppositeAfterWrong : ChangeSpec := { name := "fnOppositeAfter", fn := fun _ => fun
  | [d1, d2] => { results := [.lit (.bool false)], args := [d1, d2] }
  | _ => none }
def FnOppositeAfterWrongFalsely : Prop := fnOppositeAfterRow.holds Try.pinned (OpenSpec.ofChange fnOppositeAfterWrong)

/-- 'laws.FnRadix': WHATEVER THE INPUT: true; the input reads as it did. -/
def fnRadixSpec : ChangeSpec := { name := "fnRadix", fn := fun _ => fun
  | [d1, d2, d3] => { results := [.lit (.bool true)], args := [d1, d2, d3] }
  | _ => none }
def fnRadixRow : OpenClaim := { program := "ytdojnocmapkodaa", sum := "e1add681563b5c2916c26e8c5155601fa897b16082075c1655eb16a86e5a3662", func := "lib-rankfinder/laws.FnRadix", spec := "fnRadix", unfollowed := true, recurses := true, apart := false }
def FnRadixSaid : Prop := fnRadixRow.holds Try.pinned (OpenSpec.ofChange fnRadixSpec)

/-- ITS FALSE NEIGHBOUR: 'it returns false'. Refute it at one input. -/
def fnRadixWrong : ChangeSpec := { name := "fnRadix", fn := fun _ => fun
  | [d1, d2, d3] => { results := [.lit (.bool false)], args := [d1, d2, d3] }
  | _ => none }
def FnRadixWrongFalsely : Prop := fnRadixRow.holds Try.pinned (OpenSpec.ofChange fnRadixWrong)

/-- 'laws.FnKth': WHATEVER THE INPUT: true; the input reads as it did. -/
def fnKthSpec : ChangeSpec := { name := "fnKth", fn := fun _ => fun
  | [d1, d2, d3] => { results := [.lit (.bool true)], args := [d1, d2, d3] }
  | _ => none }
def fnKthRow : OpenClaim := { program := "ytdojnocmapkodaa", sum := "e1add681563b5c2916c26e8c5155601fa897b16082075c1655eb16a86e5a3662", func := "lib-rankfinder/laws.FnKth", spec := "fnKth", unfollowed := true, recurses := true, apart := false }
def FnKthSaid : Prop := fnKthRow.holds Try.pinned (OpenSpec.ofChange fnKthSpec)

/-- ITS FALSE NEIGHBOUR: 'it returns false'. Refute it at one input. -/
def fnKthWrong : ChangeSpec := { name := "fnKth", fn := fun _ => fun
  | [d1, d2, d3] => { results := [.lit (.bool false)], args := [d1, d2, d3] }
  | _ => none }
def FnKthWrongFalsely : Prop := fnKthRow.holds Try.pinned (OpenSpec.ofChange fnKthWrong)

/-- 'laws.FnMerged': WHATEVER THE INPUT: true; the input reads as it did. -/
def fnMergedSpec : ChangeSpec := { name := "fnMerged", fn := fun _ => fun
  | [d1, d2, d3] => { results := [.lit (.bool true)], args := [d1, d2, d3] }
  | _ => none }
def fnMergedRow : OpenClaim := { program := "ytdojnocmapkodaa", sum := "e1add681563b5c2916c26e8c5155601fa897b16082075c1655eb16a86e5a3662", func := "lib-rankfinder/laws.FnMerged", spec := "fnMerged", unfollowed := true, recurses := true, apart := false }
def FnMergedSaid : Prop := fnMergedRow.holds Try.pinned (OpenSpec.ofChange fnMergedSpec)

/-- ITS FALSE NEIGHBOUR: 'it returns false'. Refute it at one input. -/
def fnMergedWrong : ChangeSpec := { name := "fnMerged", fn := fun _ => fun
  | [d1, d2, d3] => { results := [.lit (.bool false)], args := [d1, d2, d3] }
  | _ => none }
def FnMergedWrongFalsely : Prop := fnMergedRow.holds Try.pinned (OpenSpec.ofChange fnMergedWrong)

/-- 'laws.FnTwoLevels': WHATEVER THE INPUT: true; the input reads as it did. -/
def fnTwoLevelsSpec : ChangeSpec := { name := "fnTwoLevels", fn := fun _ => fun
  | [d1, d2, d3, d4] => { results := [.lit (.bool true)], args := [d1, d2, d3, d4] }
  | _ => none }
def fnTwoLevelsRow : OpenClaim := { program := "ytdojnocmapkodaa", sum := "e1add681563b5c2916c26e8c5155601fa897b16082075c1655eb16a86e5a3662", func := "lib-rankfinder/laws.FnTwoLevels", spec := "fnTwoLevels", unfollowed := true, recurses := true, apart := false }
def FnTwoLevelsSaid : Prop := fnTwoLevelsRow.holds Try.pinned (OpenSpec.ofChange fnTwoLevelsSpec)

/-- ITS FALSE NEIGHBOUR: 'it returns false'. Refute it at one input. -/
def fnTwoLevelsWrong : ChangeSpec := { name := "fnTwoLevels", fn := fun _ => fun
  | [d1, d2, d3, d4] => { results := [.lit (.bool false)], args := [d1, d2, d3, d4] }
  | _ => none }
def FnTwoLevelsWrongFalsely : Prop := fnTwoLevelsRow.holds Try.pinned (OpenSpec.ofChange fnTwoLevelsWrong)

/-- 'laws.FnAskedRises': WHATEVER THE INPUT: true; the input reads as it did. -/
def fnAskedRisesSpec : ChangeSpec := { name := "fnAskedRises", fn := fun _ => fun
  | [d1, d2] => { results := [.lit (.bool true)], args := [d1, d2] }
  | _ => none }
def fnAskedRisesRow : OpenClaim := { program := "ytdojnocmapkodaa", sum := "e1add681563b5c2916c26e8c5155601fa897b16082075c1655eb16a86e5a3662", func := "lib-rankfinder/laws.FnAskedRises", spec := "fnAskedRises", unfollowed := true, recurses := true, apart := false }
def FnAskedRisesSaid : Prop := fnAskedRisesRow.holds Try.pinned (OpenSpec.ofChange fnAskedRisesSpec)

/-- ITS FALSE NEIGHBOUR: 'it returns false'. Refute it at one input. -/
def fnAskedRisesWrong : ChangeSpec := { name := "fnAskedRises", fn := fun _ => fun
  | [d1, d2] => { results := [.lit (.bool false)], args := [d1, d2] }
  | _ => none }
def FnAskedRisesWrongFalsely : Prop := fnAskedRisesRow.holds Try.pinned (OpenSpec.ofChange fnAskedRisesWrong)

/-- 'laws.FnCommon': WHATEVER THE INPUT: true; the input reads as it did. -/
def fnCommonSpec : ChangeSpec := { name := "fnCommon", fn := fun _ => fun
  | [d1, d2, d3] => { results := [.lit (.bool true)], args := [d1, d2, d3] }
  | _ => none }
def fnCommonRow : OpenClaim := { program := "ytdojnocmapkodaa", sum := "e1add681563b5c2916c26e8c5155601fa897b16082075c1655eb16a86e5a3662", func := "lib-rankfinder/laws.FnCommon", spec := "fnCommon", unfollowed := true, recurses := true, apart := false }
def FnCommonSaid : Prop := fnCommonRow.holds Try.pinned (OpenSpec.ofChange fnCommonSpec)

/-- ITS FALSE NEIGHBOUR: 'it returns false'. Refute it at one input. -/
def fnCommonWrong : ChangeSpec := { name := "fnCommon", fn := fun _ => fun
  | [d1, d2, d3] => { results := [.lit (.bool false)], args := [d1, d2, d3] }
  | _ => none }
def FnCommonWrongFalsely : Prop := fnCommonRow.holds Try.pinned (OpenSpec.ofChange fnCommonWrong)

/- THE SECOND FORM. 'bulk': how many values and letters a reading holds, each counted each time it is reached (what is shared counts as often as it is met; a slice's spare places count too). A statement '..UptoSaid' is the law's where the arguments, and the package variables that the reading takes, are together of bulk at most 1048576: NARROWER than '..Said'. Prove '..Said' where nothing that the law and all that it calls make is longer than what came in: it says more and counts as full. Else prove '..UptoSaid'. A law counts once. -/
mutual
def uptoBulk {H : Type} : DataW H → Nat
  | .lit (.string bytes) => bytes.length + 1
  | .lit _ => 1
  | .nil => 1
  | .ptr d => uptoBulk d + 1
  | .slice elems spare => uptoBulkAll elems + uptoBulkAll spare + 1
  | .agg parts => uptoBulkAll parts + 1
  | .iface _ d => uptoBulk d + 1
  | .map entries => uptoBulkEntries entries + 1
  | .held _ => 1
def uptoBulkAll {H : Type} : List (DataW H) → Nat
  | [] => 0
  | d :: r => uptoBulk d + uptoBulkAll r
def uptoBulkEntries {H : Type} : List (Lit × DataW H) → Nat
  | [] => 0
  | x :: r => uptoBulkEntry x + uptoBulkEntries r
def uptoBulkEntry {H : Type} : Lit × DataW H → Nat
  | (.string bytes, d) => bytes.length + uptoBulk d + 1
  | (_, d) => uptoBulk d + 1
 end
def uptoSmall : (H : Type) → List (DataW H) → Bool := fun _ ds => decide (uptoBulkAll ds ≤ 1048576)
def OpenSpec.upto (s : _root_.Go.ChangeSpec) : _root_.Go.OpenSpec := { _root_.Go.OpenSpec.ofChange s with cond := some uptoSmall }

/-- 'laws.FnInverse', WHERE WHAT IT READS IS OF BULK AT MOST 1048576: true; the input reads as it did. -/
def fnInverseUptoRow : OpenClaim := { program := "ytdojnocmapkodaa", sum := "e1add681563b5c2916c26e8c5155601fa897b16082075c1655eb16a86e5a3662", func := "lib-rankfinder/laws.FnInverse", spec := "fnInverse", unfollowed := true, recurses := true, apart := false, narrowed := true }
def FnInverseUptoSaid : Prop := fnInverseUptoRow.holds Try.pinned (OpenSpec.upto fnInverseSpec)

/-- 'laws.FnLaterAgain', WHERE WHAT IT READS IS OF BULK AT MOST 1048576: true; the input reads as it did. -/
def fnLaterAgainUptoRow : OpenClaim := { program := "ytdojnocmapkodaa", sum := "e1add681563b5c2916c26e8c5155601fa897b16082075c1655eb16a86e5a3662", func := "lib-rankfinder/laws.FnLaterAgain", spec := "fnLaterAgain", unfollowed := true, recurses := true, apart := false, narrowed := true }
def FnLaterAgainUptoSaid : Prop := fnLaterAgainUptoRow.holds Try.pinned (OpenSpec.upto fnLaterAgainSpec)

/-- 'laws.FnStableSteps', WHERE WHAT IT READS IS OF BULK AT MOST 1048576: true; the input reads as it did. -/
def fnStableStepsUptoRow : OpenClaim := { program := "ytdojnocmapkodaa", sum := "e1add681563b5c2916c26e8c5155601fa897b16082075c1655eb16a86e5a3662", func := "lib-rankfinder/laws.FnStableSteps", spec := "fnStableSteps", unfollowed := true, recurses := true, apart := false, narrowed := true }
def FnStableStepsUptoSaid : Prop := fnStableStepsUptoRow.holds Try.pinned (OpenSpec.upto fnStableStepsSpec)

/-- 'laws.FnOppositeAfter', WHERE WHAT IT READS IS OF BULK AT MOST 1048576: true; the input reads as it did. -/
def fnOppositeAfterUptoRow : OpenClaim := { program := "ytdojnocmapkodaa", sum := "e1add681563b5c2916c26e8c5155601fa897b16082075c1655eb16a86e5a3662", func := "lib-rankfinder/laws.FnOppositeAfter", spec := "fnOppositeAfter", unfollowed := true, recurses := true, apart := false, narrowed := true }
def FnOppositeAfterUptoSaid : Prop := fnOppositeAfterUptoRow.holds Try.pinned (OpenSpec.upto fnOppositeAfterSpec)

/-- 'laws.FnRadix', WHERE WHAT IT READS IS OF BULK AT MOST 1048576: true; the input reads as it did. -/
def fnRadixUptoRow : OpenClaim := { program := "ytdojnocmapkodaa", sum := "e1add681563b5c2916c26e8c5155601fa897b16082075c1655eb16a86e5a3662", func := "lib-rankfinder/laws.FnRadix", spec := "fnRadix", unfollowed := true, recurses := true, apart := false, narrowed := true }
def FnRadixUptoSaid : Prop := fnRadixUptoRow.holds Try.pinned (OpenSpec.upto fnRadixSpec)

/-- 'laws.FnKth', WHERE WHAT IT READS IS OF BULK AT MOST 1048576: true; the input reads as it did. -/
def fnKthUptoRow : OpenClaim := { program := "ytdojnocmapkodaa", sum := "e1add681563b5c2916c26e8c5155601fa897b16082075c1655eb16a86e5a3662", func := "lib-rankfinder/laws.FnKth", spec := "fnKth", unfollowed := true, recurses := true, apart := false, narrowed := true }
def FnKthUptoSaid : Prop := fnKthUptoRow.holds Try.pinned (OpenSpec.upto fnKthSpec)

/-- 'laws.FnMerged', WHERE WHAT IT READS IS OF BULK AT MOST 1048576: true; the input reads as it did. -/
def fnMergedUptoRow : OpenClaim := { program := "ytdojnocmapkodaa", sum := "e1add681563b5c2916c26e8c5155601fa897b16082075c1655eb16a86e5a3662", func := "lib-rankfinder/laws.FnMerged", spec := "fnMerged", unfollowed := true, recurses := true, apart := false, narrowed := true }
def FnMergedUptoSaid : Prop := fnMergedUptoRow.holds Try.pinned (OpenSpec.upto fnMergedSpec)

/-- 'laws.FnTwoLevels', WHERE WHAT IT READS IS OF BULK AT MOST 1048576: true; the input reads as it did. -/
def fnTwoLevelsUptoRow : OpenClaim := { program := "ytdojnocmapkodaa", sum := "e1add681563b5c2916c26e8c5155601fa897b16082075c1655eb16a86e5a3662", func := "lib-rankfinder/laws.FnTwoLevels", spec := "fnTwoLevels", unfollowed := true, recurses := true, apart := false, narrowed := true }
def FnTwoLevelsUptoSaid : Prop := fnTwoLevelsUptoRow.holds Try.pinned (OpenSpec.upto fnTwoLevelsSpec)

/-- 'laws.FnAskedRises', WHERE WHAT IT READS IS OF BULK AT MOST 1048576: true; the input reads as it did. -/
def fnAskedRisesUptoRow : OpenClaim := { program := "ytdojnocmapkodaa", sum := "e1add681563b5c2916c26e8c5155601fa897b16082075c1655eb16a86e5a3662", func := "lib-rankfinder/laws.FnAskedRises", spec := "fnAskedRises", unfollowed := true, recurses := true, apart := false, narrowed := true }
def FnAskedRisesUptoSaid : Prop := fnAskedRisesUptoRow.holds Try.pinned (OpenSpec.upto fnAskedRisesSpec)

/-- 'laws.FnCommon', WHERE WHAT IT READS IS OF BULK AT MOST 1048576: true; the input reads as it did. -/
def fnCommonUptoRow : OpenClaim := { program := "ytdojnocmapkodaa", sum := "e1add681563b5c2916c26e8c5155601fa897b16082075c1655eb16a86e5a3662", func := "lib-rankfinder/laws.FnCommon", spec := "fnCommon", unfollowed := true, recurses := true, apart := false, narrowed := true }
def FnCommonUptoSaid : Prop := fnCommonUptoRow.holds Try.pinned (OpenSpec.upto fnCommonSpec)

end Rows
end Go.Proofs.Ytdojnocmapkodaa

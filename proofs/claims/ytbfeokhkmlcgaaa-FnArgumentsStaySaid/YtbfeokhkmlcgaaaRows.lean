/-
  No cell of these rows narrows 'for every input' (looked for: loops, veiled, ifaces, maps, wideKeys, modest, calm, conditions, laid).
  DERIVED. THE GIVEN ROWS OF THIS SEAT. 11 by the template 'for every input the law returns true; each argument reads behind the call as it read before'; 0 by the template 'total and deterministic' (their statements: YtbfeokhkmlcgaaaTotals.lean).
  GIVEN WITH THE SEED: the statements are not yours to turn. If you find one false, say at which input.
  Laid BY PROGRAM, IN A SANDBOX (cutbox-rows.mjs): the forced cells as the released guide's own fill.sh prints them over the translation f78a87b19212b9ab… (all of the seat's roots in one cut). By AI agents, Wed Nov 11 2026. No macro, syntax, notation, axiom, sorry.
-/
import Derived.Test.YtbfeokhkmlcgaaaChecked
import GoSem.Claim
import GoSem.ClaimJoined
import GoSem.ClaimMapViews
import Derived.JoinedTies
import Derived.KernelRfl
namespace Go.Proofs.Ytbfeokhkmlcgaaa
/- THE CELL 'sum', in the pinned program and in every row, IS THE sha256 OF THE DUMP (.gsa) THAT YtbfeokhkmlcgaaaProg.lean LOADS. Nothing in Lean hashes anything: it is a label: what it is worth is what the hold of that sum in a sandbox is worth. -/
noncomputable def Try.pinned : Pinned := { name := "ytbfeokhkmlcgaaa", sum := "f78a87b19212b9ab3096299a76078000bff67e28ebb38a3e5d9827af722a4295", checked := Try.checked }
namespace Rows
def none {H : Type} : Left H := { results := [], args := [] }

/-- 'laws.FnBag': WHATEVER THE INPUT: true; the input reads as it did. -/
def fnBagSpec : ChangeSpec := { name := "fnBag", fn := fun _ => fun
  | [d1, d2] => { results := [.lit (.bool true)], args := [d1, d2] }
  | _ => none }
def fnBagRow : OpenClaim := { program := "ytbfeokhkmlcgaaa", sum := "f78a87b19212b9ab3096299a76078000bff67e28ebb38a3e5d9827af722a4295", func := "lib-rankfinder/laws.FnBag", spec := "fnBag", unfollowed := true, recurses := true, apart := false }
def FnBagSaid : Prop := fnBagRow.holds Try.pinned (OpenSpec.ofChange fnBagSpec)

/-- ITS FALSE NEIGHBOUR: 'it returns false'. Refute it at one input. -/
def fnBagWrong : ChangeSpec := { name := "fnBag", fn := fun _ => fun
  | [d1, d2] => { results := [.lit (.bool false)], args := [d1, d2] }
  | _ => none }
def FnBagWrongFalsely : Prop := fnBagRow.holds Try.pinned (OpenSpec.ofChange fnBagWrong)

/-- 'laws.FnEqualRange': WHATEVER THE INPUT: true; the input reads as it did. -/
def fnEqualRangeSpec : ChangeSpec := { name := "fnEqualRange", fn := fun _ => fun
  | [d1, d2, d3] => { results := [.lit (.bool true)], args := [d1, d2, d3] }
  | _ => none }
def fnEqualRangeRow : OpenClaim := { program := "ytbfeokhkmlcgaaa", sum := "f78a87b19212b9ab3096299a76078000bff67e28ebb38a3e5d9827af722a4295", func := "lib-rankfinder/laws.FnEqualRange", spec := "fnEqualRange", unfollowed := true, recurses := true, apart := false }
def FnEqualRangeSaid : Prop := fnEqualRangeRow.holds Try.pinned (OpenSpec.ofChange fnEqualRangeSpec)

/-- ITS FALSE NEIGHBOUR: 'it returns false'. Refute it at one input. -/
def fnEqualRangeWrong : ChangeSpec := { name := "fnEqualRange", fn := fun _ => fun
  | [d1, d2, d3] => { results := [.lit (.bool false)], args := [d1, d2, d3] }
  | _ => none }
def FnEqualRangeWrongFalsely : Prop := fnEqualRangeRow.holds Try.pinned (OpenSpec.ofChange fnEqualRangeWrong)

/-- 'laws.FnArgumentsStay': WHATEVER THE INPUT: true; the input reads as it did. -/
def fnArgumentsStaySpec : ChangeSpec := { name := "fnArgumentsStay", fn := fun _ => fun
  | [d1, d2, d3, d4] => { results := [.lit (.bool true)], args := [d1, d2, d3, d4] }
  | _ => none }
def fnArgumentsStayRow : OpenClaim := { program := "ytbfeokhkmlcgaaa", sum := "f78a87b19212b9ab3096299a76078000bff67e28ebb38a3e5d9827af722a4295", func := "lib-rankfinder/laws.FnArgumentsStay", spec := "fnArgumentsStay", unfollowed := true, recurses := true, apart := false }
def FnArgumentsStaySaid : Prop := fnArgumentsStayRow.holds Try.pinned (OpenSpec.ofChange fnArgumentsStaySpec)

/-- ITS FALSE NEIGHBOUR: 'it returns false'. Refute it at one input. -/
def fnArgumentsStayWrong : ChangeSpec := { name := "fnArgumentsStay", fn := fun _ => fun
  | [d1, d2, d3, d4] => { results := [.lit (.bool false)], args := [d1, d2, d3, d4] }
  | _ => none }
def FnArgumentsStayWrongFalsely : Prop := fnArgumentsStayRow.holds Try.pinned (OpenSpec.ofChange fnArgumentsStayWrong)

/-- 'laws.FnBatches': WHATEVER THE INPUT: true; the input reads as it did. -/
def fnBatchesSpec : ChangeSpec := { name := "fnBatches", fn := fun _ => fun
  | [d1, d2, d3] => { results := [.lit (.bool true)], args := [d1, d2, d3] }
  | _ => none }
def fnBatchesRow : OpenClaim := { program := "ytbfeokhkmlcgaaa", sum := "f78a87b19212b9ab3096299a76078000bff67e28ebb38a3e5d9827af722a4295", func := "lib-rankfinder/laws.FnBatches", spec := "fnBatches", unfollowed := true, recurses := true, apart := false }
def FnBatchesSaid : Prop := fnBatchesRow.holds Try.pinned (OpenSpec.ofChange fnBatchesSpec)

/-- ITS FALSE NEIGHBOUR: 'it returns false'. Refute it at one input. -/
def fnBatchesWrong : ChangeSpec := { name := "fnBatches", fn := fun _ => fun
  | [d1, d2, d3] => { results := [.lit (.bool false)], args := [d1, d2, d3] }
  | _ => none }
def FnBatchesWrongFalsely : Prop := fnBatchesRow.holds Try.pinned (OpenSpec.ofChange fnBatchesWrong)

/-- 'laws.FnCounted': WHATEVER THE INPUT: true; the input reads as it did. -/
def fnCountedSpec : ChangeSpec := { name := "fnCounted", fn := fun _ => fun
  | [d1, d2] => { results := [.lit (.bool true)], args := [d1, d2] }
  | _ => none }
def fnCountedRow : OpenClaim := { program := "ytbfeokhkmlcgaaa", sum := "f78a87b19212b9ab3096299a76078000bff67e28ebb38a3e5d9827af722a4295", func := "lib-rankfinder/laws.FnCounted", spec := "fnCounted", unfollowed := true, recurses := true, apart := false }
def FnCountedSaid : Prop := fnCountedRow.holds Try.pinned (OpenSpec.ofChange fnCountedSpec)

/-- ITS FALSE NEIGHBOUR: 'it returns false'. Refute it at one input. -/
def fnCountedWrong : ChangeSpec := { name := "fnCounted", fn := fun _ => fun
  | [d1, d2] => { results := [.lit (.bool false)], args := [d1, d2] }
  | _ => none }
def FnCountedWrongFalsely : Prop := fnCountedRow.holds Try.pinned (OpenSpec.ofChange fnCountedWrong)

/-- 'laws.FnQuick': WHATEVER THE INPUT: true; the input reads as it did. -/
def fnQuickSpec : ChangeSpec := { name := "fnQuick", fn := fun _ => fun
  | [d1, d2, d3] => { results := [.lit (.bool true)], args := [d1, d2, d3] }
  | _ => none }
def fnQuickRow : OpenClaim := { program := "ytbfeokhkmlcgaaa", sum := "f78a87b19212b9ab3096299a76078000bff67e28ebb38a3e5d9827af722a4295", func := "lib-rankfinder/laws.FnQuick", spec := "fnQuick", unfollowed := true, recurses := true, apart := false }
def FnQuickSaid : Prop := fnQuickRow.holds Try.pinned (OpenSpec.ofChange fnQuickSpec)

/-- ITS FALSE NEIGHBOUR: 'it returns false'. Refute it at one input. -/
def fnQuickWrong : ChangeSpec := { name := "fnQuick", fn := fun _ => fun
  | [d1, d2, d3] => { results := [.lit (.bool false)], args := [d1, d2, d3] }
  | _ => none }
def FnQuickWrongFalsely : Prop := fnQuickRow.holds Try.pinned (OpenSpec.ofChange fnQuickWrong)

/-- 'laws.FnStable': WHATEVER THE INPUT: true; the input reads as it did. -/
def fnStableSpec : ChangeSpec := { name := "fnStable", fn := fun _ => fun
  | [d1, d2] => { results := [.lit (.bool true)], args := [d1, d2] }
  | _ => none }
def fnStableRow : OpenClaim := { program := "ytbfeokhkmlcgaaa", sum := "f78a87b19212b9ab3096299a76078000bff67e28ebb38a3e5d9827af722a4295", func := "lib-rankfinder/laws.FnStable", spec := "fnStable", unfollowed := true, recurses := true, apart := false }
def FnStableSaid : Prop := fnStableRow.holds Try.pinned (OpenSpec.ofChange fnStableSpec)

/-- ITS FALSE NEIGHBOUR: 'it returns false'. Refute it at one input. -/
def fnStableWrong : ChangeSpec := { name := "fnStable", fn := fun _ => fun
  | [d1, d2] => { results := [.lit (.bool false)], args := [d1, d2] }
  | _ => none }
def FnStableWrongFalsely : Prop := fnStableRow.holds Try.pinned (OpenSpec.ofChange fnStableWrong)

/-- 'laws.FnInserted': WHATEVER THE INPUT: true; the input reads as it did. -/
def fnInsertedSpec : ChangeSpec := { name := "fnInserted", fn := fun _ => fun
  | [d1, d2] => { results := [.lit (.bool true)], args := [d1, d2] }
  | _ => none }
def fnInsertedRow : OpenClaim := { program := "ytbfeokhkmlcgaaa", sum := "f78a87b19212b9ab3096299a76078000bff67e28ebb38a3e5d9827af722a4295", func := "lib-rankfinder/laws.FnInserted", spec := "fnInserted", unfollowed := true, recurses := true, apart := false }
def FnInsertedSaid : Prop := fnInsertedRow.holds Try.pinned (OpenSpec.ofChange fnInsertedSpec)

/-- ITS FALSE NEIGHBOUR: 'it returns false'. Refute it at one input. -/
def fnInsertedWrong : ChangeSpec := { name := "fnInserted", fn := fun _ => fun
  | [d1, d2] => { results := [.lit (.bool false)], args := [d1, d2] }
  | _ => none }
def FnInsertedWrongFalsely : Prop := fnInsertedRow.holds Try.pinned (OpenSpec.ofChange fnInsertedWrong)

/-- 'laws.FnInsertedBack': WHATEVER THE INPUT: true; the input reads as it did. -/
def fnInsertedBackSpec : ChangeSpec := { name := "fnInsertedBack", fn := fun _ => fun
  | [d1, d2] => { results := [.lit (.bool true)], args := [d1, d2] }
  | _ => none }
def fnInsertedBackRow : OpenClaim := { program := "ytbfeokhkmlcgaaa", sum := "f78a87b19212b9ab3096299a76078000bff67e28ebb38a3e5d9827af722a4295", func := "lib-rankfinder/laws.FnInsertedBack", spec := "fnInsertedBack", unfollowed := true, recurses := true, apart := false }
def FnInsertedBackSaid : Prop := fnInsertedBackRow.holds Try.pinned (OpenSpec.ofChange fnInsertedBackSpec)

/-- ITS FALSE NEIGHBOUR: 'it returns false'. Refute it at one input. -/
def fnInsertedBackWrong : ChangeSpec := { name := "fnInsertedBack", fn := fun _ => fun
  | [d1, d2] => { results := [.lit (.bool false)], args := [d1, d2] }
  | _ => none }
def FnInsertedBackWrongFalsely : Prop := fnInsertedBackRow.holds Try.pinned (OpenSpec.ofChange fnInsertedBackWrong)

/-- 'laws.FnInversions': WHATEVER THE INPUT: true; the input reads as it did. -/
def fnInversionsSpec : ChangeSpec := { name := "fnInversions", fn := fun _ => fun
  | [d1, d2] => { results := [.lit (.bool true)], args := [d1, d2] }
  | _ => none }
def fnInversionsRow : OpenClaim := { program := "ytbfeokhkmlcgaaa", sum := "f78a87b19212b9ab3096299a76078000bff67e28ebb38a3e5d9827af722a4295", func := "lib-rankfinder/laws.FnInversions", spec := "fnInversions", unfollowed := true, recurses := true, apart := false }
def FnInversionsSaid : Prop := fnInversionsRow.holds Try.pinned (OpenSpec.ofChange fnInversionsSpec)

/-- ITS FALSE NEIGHBOUR: 'it returns false'. Refute it at one input. -/
def fnInversionsWrong : ChangeSpec := { name := "fnInversions", fn := fun _ => fun
  | [d1, d2] => { results := [.lit (.bool false)], args := [d1, d2] }
  | _ => none }
def FnInversionsWrongFalsely : Prop := fnInversionsRow.holds Try.pinned (OpenSpec.ofChange fnInversionsWrong)

/-- 'laws.FnPlaces': WHATEVER THE INPUT: true; the input reads as it did. -/
def fnPlacesSpec : ChangeSpec := { name := "fnPlaces", fn := fun _ => fun
  | [d1, d2] => { results := [.lit (.bool true)], args := [d1, d2] }
  | _ => none }
def fnPlacesRow : OpenClaim := { program := "ytbfeokhkmlcgaaa", sum := "f78a87b19212b9ab3096299a76078000bff67e28ebb38a3e5d9827af722a4295", func := "lib-rankfinder/laws.FnPlaces", spec := "fnPlaces", unfollowed := true, recurses := true, apart := false }
def FnPlacesSaid : Prop := fnPlacesRow.holds Try.pinned (OpenSpec.ofChange fnPlacesSpec)

/-- ITS FALSE NEIGHBOUR: 'it returns false'. Refute it at one input. -/
def fnPlacesWrong : ChangeSpec := { name := "fnPlaces", fn := fun _ => fun
  | [d1, d2] => { results := [.lit (.bool false)], args := [d1, d2] }
  | _ => none }
def FnPlacesWrongFalsely : Prop := fnPlacesRow.holds Try.pinned (OpenSpec.ofChange fnPlacesWrong)

/- THE SECOND FORM. 'bulk': how many values and letters a reading holds, each counted each time it is reached (what is shared counts as often as it is met; a slice's spare places count too). A statement '..UptoSaid' is the law's where the arguments, and the package variables that the reading takes, are together of bulk at most 1048576: NARROWER than '..Said'. Prove '..Said' where nothing that the law and all that it calls make is longer than what came in: it says more and counts as full. Else prove '..UptoSaid'. A law counts once. -/
mutual
def uptoBulk {H : Type} : DataW H → Nat
  | .lit (.string bytes) => bytes.length + 1
  | .lit _ => 1
  | .nil => 1
  | .ptr d => uptoBulk d + 1
  | .slice elems spare => uptoBulkAll elems + uptoBulkAll spare + 1
  | .agg parts => uptoBulkAll parts + 1
  | .iface _ d => uptoBulk d + 1
  | .map entries => uptoBulkEntries entries + 1
  | .held _ => 1
def uptoBulkAll {H : Type} : List (DataW H) → Nat
  | [] => 0
  | d :: r => uptoBulk d + uptoBulkAll r
def uptoBulkEntries {H : Type} : List (Lit × DataW H) → Nat
  | [] => 0
  | x :: r => uptoBulkEntry x + uptoBulkEntries r
def uptoBulkEntry {H : Type} : Lit × DataW H → Nat
  | (.string bytes, d) => bytes.length + uptoBulk d + 1
  | (_, d) => uptoBulk d + 1
 end
def uptoSmall : (H : Type) → List (DataW H) → Bool := fun _ ds => decide (uptoBulkAll ds ≤ 1048576)
def OpenSpec.upto (s : _root_.Go.ChangeSpec) : _root_.Go.OpenSpec := { _root_.Go.OpenSpec.ofChange s with cond := some uptoSmall }

/-- 'laws.FnBag', WHERE WHAT IT READS IS OF BULK AT MOST 1048576: true; the input reads as it did. -/
def fnBagUptoRow : OpenClaim := { program := "ytbfeokhkmlcgaaa", sum := "f78a87b19212b9ab3096299a76078000bff67e28ebb38a3e5d9827af722a4295", func := "lib-rankfinder/laws.FnBag", spec := "fnBag", unfollowed := true, recurses := true, apart := false, narrowed := true }
def FnBagUptoSaid : Prop := fnBagUptoRow.holds Try.pinned (OpenSpec.upto fnBagSpec)

/-- 'laws.FnEqualRange', WHERE WHAT IT READS IS OF BULK AT MOST 1048576: true; the input reads as it did. -/
def fnEqualRangeUptoRow : OpenClaim := { program := "ytbfeokhkmlcgaaa", sum := "f78a87b19212b9ab3096299a76078000bff67e28ebb38a3e5d9827af722a4295", func := "lib-rankfinder/laws.FnEqualRange", spec := "fnEqualRange", unfollowed := true, recurses := true, apart := false, narrowed := true }
def FnEqualRangeUptoSaid : Prop := fnEqualRangeUptoRow.holds Try.pinned (OpenSpec.upto fnEqualRangeSpec)

/-- 'laws.FnArgumentsStay', WHERE WHAT IT READS IS OF BULK AT MOST 1048576: true; the input reads as it did. -/
def fnArgumentsStayUptoRow : OpenClaim := { program := "ytbfeokhkmlcgaaa", sum := "f78a87b19212b9ab3096299a76078000bff67e28ebb38a3e5d9827af722a4295", func := "lib-rankfinder/laws.FnArgumentsStay", spec := "fnArgumentsStay", unfollowed := true, recurses := true, apart := false, narrowed := true }
def FnArgumentsStayUptoSaid : Prop := fnArgumentsStayUptoRow.holds Try.pinned (OpenSpec.upto fnArgumentsStaySpec)

/-- 'laws.FnBatches', WHERE WHAT IT READS IS OF BULK AT MOST 1048576: true; the input reads as it did. -/
def fnBatchesUptoRow : OpenClaim := { program := "ytbfeokhkmlcgaaa", sum := "f78a87b19212b9ab3096299a76078000bff67e28ebb38a3e5d9827af722a4295", func := "lib-rankfinder/laws.FnBatches", spec := "fnBatches", unfollowed := true, recurses := true, apart := false, narrowed := true }
def FnBatchesUptoSaid : Prop := fnBatchesUptoRow.holds Try.pinned (OpenSpec.upto fnBatchesSpec)

/-- 'laws.FnCounted', WHERE WHAT IT READS IS OF BULK AT MOST 1048576: true; the input reads as it did. -/
def fnCountedUptoRow : OpenClaim := { program := "ytbfeokhkmlcgaaa", sum := "f78a87b19212b9ab3096299a76078000bff67e28ebb38a3e5d9827af722a4295", func := "lib-rankfinder/laws.FnCounted", spec := "fnCounted", unfollowed := true, recurses := true, apart := false, narrowed := true }
def FnCountedUptoSaid : Prop := fnCountedUptoRow.holds Try.pinned (OpenSpec.upto fnCountedSpec)

/-- 'laws.FnQuick', WHERE WHAT IT READS IS OF BULK AT MOST 1048576: true; the input reads as it did. -/
def fnQuickUptoRow : OpenClaim := { program := "ytbfeokhkmlcgaaa", sum := "f78a87b19212b9ab3096299a76078000bff67e28ebb38a3e5d9827af722a4295", func := "lib-rankfinder/laws.FnQuick", spec := "fnQuick", unfollowed := true, recurses := true, apart := false, narrowed := true }
def FnQuickUptoSaid : Prop := fnQuickUptoRow.holds Try.pinned (OpenSpec.upto fnQuickSpec)

/-- 'laws.FnStable', WHERE WHAT IT READS IS OF BULK AT MOST 1048576: true; the input reads as it did. -/
def fnStableUptoRow : OpenClaim := { program := "ytbfeokhkmlcgaaa", sum := "f78a87b19212b9ab3096299a76078000bff67e28ebb38a3e5d9827af722a4295", func := "lib-rankfinder/laws.FnStable", spec := "fnStable", unfollowed := true, recurses := true, apart := false, narrowed := true }
def FnStableUptoSaid : Prop := fnStableUptoRow.holds Try.pinned (OpenSpec.upto fnStableSpec)

/-- 'laws.FnInserted', WHERE WHAT IT READS IS OF BULK AT MOST 1048576: true; the input reads as it did. -/
def fnInsertedUptoRow : OpenClaim := { program := "ytbfeokhkmlcgaaa", sum := "f78a87b19212b9ab3096299a76078000bff67e28ebb38a3e5d9827af722a4295", func := "lib-rankfinder/laws.FnInserted", spec := "fnInserted", unfollowed := true, recurses := true, apart := false, narrowed := true }
def FnInsertedUptoSaid : Prop := fnInsertedUptoRow.holds Try.pinned (OpenSpec.upto fnInsertedSpec)

/-- 'laws.FnInsertedBack', WHERE WHAT IT READS IS OF BULK AT MOST 1048576: true; the input reads as it did. -/
def fnInsertedBackUptoRow : OpenClaim := { program := "ytbfeokhkmlcgaaa", sum := "f78a87b19212b9ab3096299a76078000bff67e28ebb38a3e5d9827af722a4295", func := "lib-rankfinder/laws.FnInsertedBack", spec := "fnInsertedBack", unfollowed := true, recurses := true, apart := false, narrowed := true }
def FnInsertedBackUptoSaid : Prop := fnInsertedBackUptoRow.holds Try.pinned (OpenSpec.upto fnInsertedBackSpec)

/-- 'laws.FnInversions', WHERE WHAT IT READS IS OF BULK AT MOST 1048576: true; the input reads as it did. -/
def fnInversionsUptoRow : OpenClaim := { program := "ytbfeokhkmlcgaaa", sum := "f78a87b19212b9ab3096299a76078000bff67e28ebb38a3e5d9827af722a4295", func := "lib-rankfinder/laws.FnInversions", spec := "fnInversions", unfollowed := true, recurses := true, apart := false, narrowed := true }
def FnInversionsUptoSaid : Prop := fnInversionsUptoRow.holds Try.pinned (OpenSpec.upto fnInversionsSpec)

/-- 'laws.FnPlaces', WHERE WHAT IT READS IS OF BULK AT MOST 1048576: true; the input reads as it did. -/
def fnPlacesUptoRow : OpenClaim := { program := "ytbfeokhkmlcgaaa", sum := "f78a87b19212b9ab3096299a76078000bff67e28ebb38a3e5d9827af722a4295", func := "lib-rankfinder/laws.FnPlaces", spec := "fnPlaces", unfollowed := true, recurses := true, apart := false, narrowed := true }
def FnPlacesUptoSaid : Prop := fnPlacesUptoRow.holds Try.pinned (OpenSpec.upto fnPlacesSpec)

end Rows
end Go.Proofs.Ytbfeokhkmlcgaaa

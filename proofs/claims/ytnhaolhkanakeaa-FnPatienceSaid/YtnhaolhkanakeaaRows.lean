/-
  No cell of these rows narrows 'for every input' (looked for: loops, veiled, ifaces, maps, wideKeys, modest, calm, conditions, laid).
  DERIVED. THE GIVEN ROWS OF THIS SEAT. 9 by the template 'for every input the law returns true; each argument reads behind the call as it read before'; 0 by the template 'total and deterministic' (their statements: YtnhaolhkanakeaaTotals.lean).
  GIVEN WITH THE SEED: the statements are not yours to turn. If you find one false, say at which input.
  Laid BY PROGRAM, IN A SANDBOX (cutbox-rows.mjs): the forced cells as the released guide's own fill.sh prints them over the translation c79802ffa5a1d095… (all of the seat's roots in one cut). By AI agents, Wed Nov 11 2026. No macro, syntax, notation, axiom, sorry.
-/
import Derived.Test.YtnhaolhkanakeaaChecked
import GoSem.Claim
import GoSem.ClaimJoined
import GoSem.ClaimMapViews
import Derived.JoinedTies
import Derived.KernelRfl
namespace Go.Proofs.Ytnhaolhkanakeaa
/- THE CELL 'sum', in the pinned program and in every row, IS THE sha256 OF THE DUMP (.gsa) THAT YtnhaolhkanakeaaProg.lean LOADS. Nothing in Lean hashes anything: it is a label: what it is worth is what the hold of that sum in a sandbox is worth. -/
noncomputable def Try.pinned : Pinned := { name := "ytnhaolhkanakeaa", sum := "c79802ffa5a1d09516a9b001907d6dded24e326fd5cd3ae30fc4554598540a60", checked := Try.checked }
namespace Rows
def none {H : Type} : Left H := { results := [], args := [] }

/-- 'laws.FnSearchPast': WHATEVER THE INPUT: true; the input reads as it did. -/
def fnSearchPastSpec : ChangeSpec := { name := "fnSearchPast", fn := fun _ => fun
  | [d1, d2, d3] => { results := [.lit (.bool true)], args := [d1, d2, d3] }
  | _ => none }
def fnSearchPastRow : OpenClaim := { program := "ytnhaolhkanakeaa", sum := "c79802ffa5a1d09516a9b001907d6dded24e326fd5cd3ae30fc4554598540a60", func := "lib-rankfinder/laws.FnSearchPast", spec := "fnSearchPast", unfollowed := true, recurses := true, apart := false }
def FnSearchPastSaid : Prop := fnSearchPastRow.holds Try.pinned (OpenSpec.ofChange fnSearchPastSpec)

/-- ITS FALSE NEIGHBOUR: 'it returns false'. Refute it at one input. -/
def fnSearchPastWrong : ChangeSpec := { name := "fnSearchPast", fn := fun _ => fun
  | [d1, d2, d3] => { results := [.lit (.bool false)], args := [d1, d2, d3] }
  | _ => none }
def FnSearchPastWrongFalsely : Prop := fnSearchPastRow.holds Try.pinned (OpenSpec.ofChange fnSearchPastWrong)

/-- 'laws.FnPatience': WHATEVER THE INPUT: true; the input reads as it did. -/
def fnPatienceSpec : ChangeSpec := { name := "fnPatience", fn := fun _ => fun
  | [d1, d2] => { results := [.lit (.bool true)], args := [d1, d2] }
  | _ => none }
def fnPatienceRow : OpenClaim := { program := "ytnhaolhkanakeaa", sum := "c79802ffa5a1d09516a9b001907d6dded24e326fd5cd3ae30fc4554598540a60", func := "lib-rankfinder/laws.FnPatience", spec := "fnPatience", unfollowed := true, recurses := true, apart := false }
def FnPatienceSaid : Prop := fnPatienceRow.holds Try.pinned (OpenSpec.ofChange fnPatienceSpec)

/-- ITS FALSE NEIGHBOUR: 'it returns false'. Refute it at one input. -/
def fnPatienceWrong : ChangeSpec := { name := "fnPatience", fn := fun _ => fun
  | [d1, d2] => { results := [.lit (.bool false)], args := [d1, d2] }
  | _ => none }
def FnPatienceWrongFalsely : Prop := fnPatienceRow.holds Try.pinned (OpenSpec.ofChange fnPatienceWrong)

/-- 'laws.FnAsked': WHATEVER THE INPUT: true; the input reads as it did. -/
def fnAskedSpec : ChangeSpec := { name := "fnAsked", fn := fun _ => fun
  | [d1, d2, d3] => { results := [.lit (.bool true)], args := [d1, d2, d3] }
  | _ => none }
def fnAskedRow : OpenClaim := { program := "ytnhaolhkanakeaa", sum := "c79802ffa5a1d09516a9b001907d6dded24e326fd5cd3ae30fc4554598540a60", func := "lib-rankfinder/laws.FnAsked", spec := "fnAsked", unfollowed := true, recurses := true, apart := false }
def FnAskedSaid : Prop := fnAskedRow.holds Try.pinned (OpenSpec.ofChange fnAskedSpec)

/-- ITS FALSE NEIGHBOUR: 'it returns false'. Refute it at one input. -/
def fnAskedWrong : ChangeSpec := { name := "fnAsked", fn := fun _ => fun
  | [d1, d2, d3] => { results := [.lit (.bool false)], args := [d1, d2, d3] }
  | _ => none }
def FnAskedWrongFalsely : Prop := fnAskedRow.holds Try.pinned (OpenSpec.ofChange fnAskedWrong)

/-- 'laws.FnFindItem': WHATEVER THE INPUT: true; the input reads as it did. -/
def fnFindItemSpec : ChangeSpec := { name := "fnFindItem", fn := fun _ => fun
  | [d1, d2, d3] => { results := [.lit (.bool true)], args := [d1, d2, d3] }
  | _ => none }
def fnFindItemRow : OpenClaim := { program := "ytnhaolhkanakeaa", sum := "c79802ffa5a1d09516a9b001907d6dded24e326fd5cd3ae30fc4554598540a60", func := "lib-rankfinder/laws.FnFindItem", spec := "fnFindItem", unfollowed := true, recurses := true, apart := false }
def FnFindItemSaid : Prop := fnFindItemRow.holds Try.pinned (OpenSpec.ofChange fnFindItemSpec)

/-- ITS FALSE NEIGHBOUR: 'it returns false'. Refute it at one input. -/
def fnFindItemWrong : ChangeSpec := { name := "fnFindItem", fn := fun _ => fun
  | [d1, d2, d3] => { results := [.lit (.bool false)], args := [d1, d2, d3] }
  | _ => none }
def FnFindItemWrongFalsely : Prop := fnFindItemRow.holds Try.pinned (OpenSpec.ofChange fnFindItemWrong)

/-- 'laws.FnQuotient': WHATEVER THE INPUT: true; the input reads as it did. -/
def fnQuotientSpec : ChangeSpec := { name := "fnQuotient", fn := fun _ => fun
  | [d1, d2, d3] => { results := [.lit (.bool true)], args := [d1, d2, d3] }
  | _ => none }
def fnQuotientRow : OpenClaim := { program := "ytnhaolhkanakeaa", sum := "c79802ffa5a1d09516a9b001907d6dded24e326fd5cd3ae30fc4554598540a60", func := "lib-rankfinder/laws.FnQuotient", spec := "fnQuotient", unfollowed := true, recurses := true, apart := false }
def FnQuotientSaid : Prop := fnQuotientRow.holds Try.pinned (OpenSpec.ofChange fnQuotientSpec)

/-- ITS FALSE NEIGHBOUR: 'it returns false'. Refute it at one input. -/
def fnQuotientWrong : ChangeSpec := { name := "fnQuotient", fn := fun _ => fun
  | [d1, d2, d3] => { results := [.lit (.bool false)], args := [d1, d2, d3] }
  | _ => none }
def FnQuotientWrongFalsely : Prop := fnQuotientRow.holds Try.pinned (OpenSpec.ofChange fnQuotientWrong)

/-- 'laws.FnQuotientOfQuotient': WHATEVER THE INPUT: true; the input reads as it did. -/
def fnQuotientOfQuotientSpec : ChangeSpec := { name := "fnQuotientOfQuotient", fn := fun _ => fun
  | [d1, d2, d3] => { results := [.lit (.bool true)], args := [d1, d2, d3] }
  | _ => none }
def fnQuotientOfQuotientRow : OpenClaim := { program := "ytnhaolhkanakeaa", sum := "c79802ffa5a1d09516a9b001907d6dded24e326fd5cd3ae30fc4554598540a60", func := "lib-rankfinder/laws.FnQuotientOfQuotient", spec := "fnQuotientOfQuotient", unfollowed := true, recurses := true, apart := false }
def FnQuotientOfQuotientSaid : Prop := fnQuotientOfQuotientRow.holds Try.pinned (OpenSpec.ofChange fnQuotientOfQuotientSpec)

/-- ITS FALSE NEIGHBOUR: 'it returns false'. Refute it at one input. -/
def fnQuotientOfQuotientWrong : ChangeSpec := { name := "fnQuotientOfQuotient", fn := fun _ => fun
  | [d1, d2, d3] => { results := [.lit (.bool false)], args := [d1, d2, d3] }
  | _ => none }
def FnQuotientOfQuotientWrongFalsely : Prop := fnQuotientOfQuotientRow.holds Try.pinned (OpenSpec.ofChange fnQuotientOfQuotientWrong)

/-- 'laws.FnRootOfRoot': WHATEVER THE INPUT: true; the input reads as it did. -/
def fnRootOfRootSpec : ChangeSpec := { name := "fnRootOfRoot", fn := fun _ => fun
  | [d] => { results := [.lit (.bool true)], args := [d] }
  | _ => none }
def fnRootOfRootRow : OpenClaim := { program := "ytnhaolhkanakeaa", sum := "c79802ffa5a1d09516a9b001907d6dded24e326fd5cd3ae30fc4554598540a60", func := "lib-rankfinder/laws.FnRootOfRoot", spec := "fnRootOfRoot", unfollowed := true, recurses := true, apart := false }
def FnRootOfRootSaid : Prop := fnRootOfRootRow.holds Try.pinned (OpenSpec.ofChange fnRootOfRootSpec)

/-- ITS FALSE NEIGHBOUR: 'it returns false'. Refute it at one input. -/
def fnRootOfRootWrong : ChangeSpec := { name := "fnRootOfRoot", fn := fun _ => fun
  | [d] => { results := [.lit (.bool false)], args := [d] }
  | _ => none }
def FnRootOfRootWrongFalsely : Prop := fnRootOfRootRow.holds Try.pinned (OpenSpec.ofChange fnRootOfRootWrong)

/-- 'laws.FnRoots': WHATEVER THE INPUT: true; the input reads as it did. -/
def fnRootsSpec : ChangeSpec := { name := "fnRoots", fn := fun _ => fun
  | [d1, d2] => { results := [.lit (.bool true)], args := [d1, d2] }
  | _ => none }
def fnRootsRow : OpenClaim := { program := "ytnhaolhkanakeaa", sum := "c79802ffa5a1d09516a9b001907d6dded24e326fd5cd3ae30fc4554598540a60", func := "lib-rankfinder/laws.FnRoots", spec := "fnRoots", unfollowed := true, recurses := true, apart := false }
def FnRootsSaid : Prop := fnRootsRow.holds Try.pinned (OpenSpec.ofChange fnRootsSpec)

/-- ITS FALSE NEIGHBOUR: 'it returns false'. Refute it at one input. -/
def fnRootsWrong : ChangeSpec := { name := "fnRoots", fn := fun _ => fun
  | [d1, d2] => { results := [.lit (.bool false)], args := [d1, d2] }
  | _ => none }
def FnRootsWrongFalsely : Prop := fnRootsRow.holds Try.pinned (OpenSpec.ofChange fnRootsWrong)

/-- 'laws.FnSearchCurve': WHATEVER THE INPUT: true; the input reads as it did. -/
def fnSearchCurveSpec : ChangeSpec := { name := "fnSearchCurve", fn := fun _ => fun
  | [d1, d2] => { results := [.lit (.bool true)], args := [d1, d2] }
  | _ => none }
def fnSearchCurveRow : OpenClaim := { program := "ytnhaolhkanakeaa", sum := "c79802ffa5a1d09516a9b001907d6dded24e326fd5cd3ae30fc4554598540a60", func := "lib-rankfinder/laws.FnSearchCurve", spec := "fnSearchCurve", unfollowed := true, recurses := true, apart := false }
def FnSearchCurveSaid : Prop := fnSearchCurveRow.holds Try.pinned (OpenSpec.ofChange fnSearchCurveSpec)

/-- ITS FALSE NEIGHBOUR: 'it returns false'. Refute it at one input. -/
def fnSearchCurveWrong : ChangeSpec := { name := "fnSearchCurve", fn := fun _ => fun
  | [d1, d2] => { results := [.lit (.bool false)], args := [d1, d2] }
  | _ => none }
def FnSearchCurveWrongFalsely : Prop := fnSearchCurveRow.holds Try.pinned (OpenSpec.ofChange fnSearchCurveWrong)

/- THE SECOND FORM. 'bulk': how many values and letters a reading holds, each counted each time it is reached (what is shared counts as often as it is met; a slice's spare places count too). A statement '..UptoSaid' is the law's where the arguments, and the package variables that the reading takes, are together of bulk at most 1048576: NARROWER than '..Said'. Prove '..Said' where nothing that the law and all that it calls make is longer than what came in: it says more and counts as full. Else prove '..UptoSaid'. A law counts once. -/
mutual
def uptoBulk {H : Type} : DataW H → Nat
  | .lit (.string bytes) => bytes.length + 1
  | .lit _ => 1
  | .nil => 1
  | .ptr d => uptoBulk d + 1
  | .slice elems spare => uptoBulkAll elems + uptoBulkAll spare + 1
  | .agg parts => uptoBulkAll parts + 1
  | .iface _ d => uptoBulk d + 1
  | .map entries => uptoBulkEntries entries + 1
  | .held _ => 1
def uptoBulkAll {H : Type} : List (DataW H) → Nat
  | [] => 0
  | d :: r => uptoBulk d + uptoBulkAll r
def uptoBulkEntries {H : Type} : List (Lit × DataW H) → Nat
  | [] => 0
  | x :: r => uptoBulkEntry x + uptoBulkEntries r
def uptoBulkEntry {H : Type} : Lit × DataW H → Nat
  | (.string bytes, d) => bytes.length + uptoBulk d + 1
  | (_, d) => uptoBulk d + 1
 end
def uptoSmall : (H : Type) → List (DataW H) → Bool := fun _ ds => decide (uptoBulkAll ds ≤ 1048576)
def OpenSpec.upto (s : _root_.Go.ChangeSpec) : _root_.Go.OpenSpec := { _root_.Go.OpenSpec.ofChange s with cond := some uptoSmall }

/-- 'laws.FnSearchPast', WHERE WHAT IT READS IS OF BULK AT MOST 1048576: true; the input reads as it did. -/
def fnSearchPastUptoRow : OpenClaim := { program := "ytnhaolhkanakeaa", sum := "c79802ffa5a1d09516a9b001907d6dded24e326fd5cd3ae30fc4554598540a60", func := "lib-rankfinder/laws.FnSearchPast", spec := "fnSearchPast", unfollowed := true, recurses := true, apart := false, narrowed := true }
def FnSearchPastUptoSaid : Prop := fnSearchPastUptoRow.holds Try.pinned (OpenSpec.upto fnSearchPastSpec)

/-- 'laws.FnPatience', WHERE WHAT IT READS IS OF BULK AT MOST 1048576: true; the input reads as it did. -/
def fnPatienceUptoRow : OpenClaim := { program := "ytnhaolhkanakeaa", sum := "c79802ffa5a1d09516a9b001907d6dded24e326fd5cd3ae30fc4554598540a60", func := "lib-rankfinder/laws.FnPatience", spec := "fnPatience", unfollowed := true, recurses := true, apart := false, narrowed := true }
def FnPatienceUptoSaid : Prop := fnPatienceUptoRow.holds Try.pinned (OpenSpec.upto fnPatienceSpec)

/-- 'laws.FnAsked', WHERE WHAT IT READS IS OF BULK AT MOST 1048576: true; the input reads as it did. -/
def fnAskedUptoRow : OpenClaim := { program := "ytnhaolhkanakeaa", sum := "c79802ffa5a1d09516a9b001907d6dded24e326fd5cd3ae30fc4554598540a60", func := "lib-rankfinder/laws.FnAsked", spec := "fnAsked", unfollowed := true, recurses := true, apart := false, narrowed := true }
def FnAskedUptoSaid : Prop := fnAskedUptoRow.holds Try.pinned (OpenSpec.upto fnAskedSpec)

/-- 'laws.FnFindItem', WHERE WHAT IT READS IS OF BULK AT MOST 1048576: true; the input reads as it did. -/
def fnFindItemUptoRow : OpenClaim := { program := "ytnhaolhkanakeaa", sum := "c79802ffa5a1d09516a9b001907d6dded24e326fd5cd3ae30fc4554598540a60", func := "lib-rankfinder/laws.FnFindItem", spec := "fnFindItem", unfollowed := true, recurses := true, apart := false, narrowed := true }
def FnFindItemUptoSaid : Prop := fnFindItemUptoRow.holds Try.pinned (OpenSpec.upto fnFindItemSpec)

/-- 'laws.FnQuotient', WHERE WHAT IT READS IS OF BULK AT MOST 1048576: true; the input reads as it did. -/
def fnQuotientUptoRow : OpenClaim := { program := "ytnhaolhkanakeaa", sum := "c79802ffa5a1d09516a9b001907d6dded24e326fd5cd3ae30fc4554598540a60", func := "lib-rankfinder/laws.FnQuotient", spec := "fnQuotient", unfollowed := true, recurses := true, apart := false, narrowed := true }
def FnQuotientUptoSaid : Prop := fnQuotientUptoRow.holds Try.pinned (OpenSpec.upto fnQuotientSpec)

/-- 'laws.FnQuotientOfQuotient', WHERE WHAT IT READS IS OF BULK AT MOST 1048576: true; the input reads as it did. -/
def fnQuotientOfQuotientUptoRow : OpenClaim := { program := "ytnhaolhkanakeaa", sum := "c79802ffa5a1d09516a9b001907d6dded24e326fd5cd3ae30fc4554598540a60", func := "lib-rankfinder/laws.FnQuotientOfQuotient", spec := "fnQuotientOfQuotient", unfollowed := true, recurses := true, apart := false, narrowed := true }
def FnQuotientOfQuotientUptoSaid : Prop := fnQuotientOfQuotientUptoRow.holds Try.pinned (OpenSpec.upto fnQuotientOfQuotientSpec)

/-- 'laws.FnRootOfRoot', WHERE WHAT IT READS IS OF BULK AT MOST 1048576: true; the input reads as it did. -/
def fnRootOfRootUptoRow : OpenClaim := { program := "ytnhaolhkanakeaa", sum := "c79802ffa5a1d09516a9b001907d6dded24e326fd5cd3ae30fc4554598540a60", func := "lib-rankfinder/laws.FnRootOfRoot", spec := "fnRootOfRoot", unfollowed := true, recurses := true, apart := false, narrowed := true }
def FnRootOfRootUptoSaid : Prop := fnRootOfRootUptoRow.holds Try.pinned (OpenSpec.upto fnRootOfRootSpec)

/-- 'laws.FnRoots', WHERE WHAT IT READS IS OF BULK AT MOST 1048576: true; the input reads as it did. -/
def fnRootsUptoRow : OpenClaim := { program := "ytnhaolhkanakeaa", sum := "c79802ffa5a1d09516a9b001907d6dded24e326fd5cd3ae30fc4554598540a60", func := "lib-rankfinder/laws.FnRoots", spec := "fnRoots", unfollowed := true, recurses := true, apart := false, narrowed := true }
def FnRootsUptoSaid : Prop := fnRootsUptoRow.holds Try.pinned (OpenSpec.upto fnRootsSpec)

/-- 'laws.FnSearchCurve', WHERE WHAT IT READS IS OF BULK AT MOST 1048576: true; the input reads as it did. -/
def fnSearchCurveUptoRow : OpenClaim := { program := "ytnhaolhkanakeaa", sum := "c79802ffa5a1d09516a9b001907d6dded24e326fd5cd3ae30fc4554598540a60", func := "lib-rankfinder/laws.FnSearchCurve", spec := "fnSearchCurve", unfollowed := true, recurses := true, apart := false, narrowed := true }
def FnSearchCurveUptoSaid : Prop := fnSearchCurveUptoRow.holds Try.pinned (OpenSpec.upto fnSearchCurveSpec)

end Rows
end Go.Proofs.Ytnhaolhkanakeaa

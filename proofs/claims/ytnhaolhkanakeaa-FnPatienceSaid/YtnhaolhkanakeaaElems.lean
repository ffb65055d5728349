/- The seat's element types. -/
import Derived.Test.YtnhaolhkanakeaaChecked
import Derived.Test.YtnhaolhkanakeaaAppend
namespace Go.Proofs.Ytnhaolhkanakeaa
theorem eZ : Elem Try.prog 25 3 1 8 := Elem.of (z := .int .i64 0) Try.underlying25 (by kernel_rfl) rfl (by omega)
theorem eI : Elem Try.prog 22 24 2 16 := Elem.of (z := .agg #[.int .i64 0, .int .i64 0]) Try.underlying22 (by kernel_rfl) rfl (by omega)
theorem eS : Elem Try.prog 31 67 2 16 := Elem.of (z := .agg #[.int .i64 0, .int .i64 0]) Try.underlying31 (by kernel_rfl) rfl (by omega)
theorem eR : Elem Try.prog 74 25 1 24 := Elem.of (z := .slice none 0 0) Try.underlying74 (by kernel_rfl) rfl (by omega)
theorem eQ : Elem Try.prog 37 39 3 24 := Elem.of (z := .agg #[.bool false, .int .i64 0, .int .i64 0]) Try.underlying37 (by kernel_rfl) rfl (by omega)
end Go.Proofs.Ytnhaolhkanakeaa

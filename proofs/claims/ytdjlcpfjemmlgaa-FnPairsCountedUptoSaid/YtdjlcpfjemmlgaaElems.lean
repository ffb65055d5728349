/- The seat's element types. -/
import Derived.Test.YtdjlcpfjemmlgaaChecked
import Derived.Test.YtdjlcpfjemmlgaaAppend
namespace Go.Proofs.Ytdjlcpfjemmlgaa
theorem eB : Elem Try.prog 31 4 1 1 := Elem.of (z := .bool false) Try.underlying31 (by kernel_rfl) rfl (by omega)
theorem eZ : Elem Try.prog 23 3 1 8 := Elem.of (z := .int .i64 0) Try.underlying23 (by kernel_rfl) rfl (by omega)
theorem eI : Elem Try.prog 22 29 2 16 := Elem.of (z := .agg #[.int .i64 0, .int .i64 0]) Try.underlying22 (by kernel_rfl) rfl (by omega)
theorem eS : Elem Try.prog 50 61 2 16 := Elem.of (z := .agg #[.int .i64 0, .int .i64 0]) Try.underlying50 (by kernel_rfl) rfl (by omega)
theorem eR : Elem Try.prog 63 23 1 24 := Elem.of (z := .slice none 0 0) Try.underlying63 (by kernel_rfl) rfl (by omega)
end Go.Proofs.Ytdjlcpfjemmlgaa

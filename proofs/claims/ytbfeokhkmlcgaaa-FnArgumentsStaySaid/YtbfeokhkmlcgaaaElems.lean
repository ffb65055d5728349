/- The seat's element types. -/
import Derived.Test.YtbfeokhkmlcgaaaChecked
import Derived.Test.YtbfeokhkmlcgaaaAppend
namespace Go.Proofs.Ytbfeokhkmlcgaaa
theorem eZ : Elem Try.prog 23 3 1 8 := Elem.of (z := .int .i64 0) Try.underlying23 (by kernel_rfl) rfl (by omega)
theorem eI : Elem Try.prog 26 28 2 16 := Elem.of (z := .agg #[.int .i64 0, .int .i64 0]) Try.underlying26 (by kernel_rfl) rfl (by omega)
theorem eS : Elem Try.prog 52 67 2 16 := Elem.of (z := .agg #[.int .i64 0, .int .i64 0]) Try.underlying52 (by kernel_rfl) rfl (by omega)
theorem eO : Elem Try.prog 42 25 1 24 := Elem.of (z := .agg #[.slice none 0 0]) Try.underlying42 (by kernel_rfl) rfl (by omega)
theorem eR : Elem Try.prog 75 23 1 24 := Elem.of (z := .slice none 0 0) Try.underlying75 (by kernel_rfl) rfl (by omega)
end Go.Proofs.Ytbfeokhkmlcgaaa

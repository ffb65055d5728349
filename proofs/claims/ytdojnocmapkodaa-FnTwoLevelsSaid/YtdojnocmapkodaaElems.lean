/- The seat's element types. -/
import Derived.Test.YtdojnocmapkodaaChecked
import Derived.Test.YtdojnocmapkodaaAppend
namespace Go.Proofs.Ytdojnocmapkodaa
theorem eB : Elem Try.prog 47 4 1 1 := Elem.of (z := .bool false) Try.underlying47 (by kernel_rfl) rfl (by omega)
theorem eZ : Elem Try.prog 23 3 1 8 := Elem.of (z := .int .i64 0) Try.underlying23 (by kernel_rfl) rfl (by omega)
theorem eI : Elem Try.prog 22 27 2 16 := Elem.of (z := .agg #[.int .i64 0, .int .i64 0]) Try.underlying22 (by kernel_rfl) rfl (by omega)
theorem eS : Elem Try.prog 38 64 2 16 := Elem.of (z := .agg #[.int .i64 0, .int .i64 0]) Try.underlying38 (by kernel_rfl) rfl (by omega)
theorem eO : Elem Try.prog 32 25 1 24 := Elem.of (z := .agg #[.slice none 0 0]) Try.underlying32 (by kernel_rfl) rfl (by omega)
theorem eR : Elem Try.prog 41 23 1 24 := Elem.of (z := .slice none 0 0) Try.underlying41 (by kernel_rfl) rfl (by omega)
theorem eQ : Elem Try.prog 54 56 3 24 := Elem.of (z := .agg #[.bool false, .int .i64 0, .int .i64 0]) Try.underlying54 (by kernel_rfl) rfl (by omega)
end Go.Proofs.Ytdojnocmapkodaa

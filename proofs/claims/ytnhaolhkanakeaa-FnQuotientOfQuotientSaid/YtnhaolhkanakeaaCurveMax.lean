/- impl.SearchCurve up to the greatest int. -/
import Derived.Test.YtnhaolhkanakeaaCurve
namespace Go.Proofs.Ytnhaolhkanakeaa
open Go.RowKit

/-- The greatest int. -/
def maxI : Nat := 9223372036854775807
theorem maxI_eq : (9223372036854775807 : Int) = (maxI : Int) := rfl
theorem maxI_nat : maxI = 9223372036854775807 := rfl
theorem SearchCurve_max (F L : Nat) (p : Int) (w : World) (hF : F < 18446744073709551616) (hL : L < 18446744073709551616) :
    Calls Try.prog 22 #[.int .i64 9223372036854775807, .agg #[.int .u64 F, .int .u64 L, .int .i64 p]] w (CutInt (overB F L p) maxI w) := by
  rw [maxI_eq]
  exact SearchCurve_any maxI F L p w (Nat.le_refl _) hF hL
end Go.Proofs.Ytnhaolhkanakeaa

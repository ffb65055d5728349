/- The contract of laws.rank. -/
import Derived.Test.YtdjlcpfjemmlgaaRank
namespace Go.Proofs.Ytdjlcpfjemmlgaa
open Go.RowKit

set_option maxHeartbeats 400000 in
theorem lrank_any (R : List Int) (A : Option Addr) (m c : Nat) (k t : Int) (w : World) (hr : Rd w w.heap.size 1 A m (cZ R)) :
    Calls Try.prog 17 #[.agg #[.slice A m c], .agg #[.int .i64 k, .int .i64 t]] w fun e w' => e = .returned (.int .i64 (rk R k)) ∧ Below w.heap.size w w' := by
  go_enter Try.func17, Try.ntmps17
  go_wp2_with fail
  refine (Rank_any R A m c k _ (hr.on (below_alloc2 w _ _))).mono ?_
  rintro e w' ⟨rfl, rfl⟩
  go_wp2
  go_ret
  exact ⟨rfl, below_alloc2 w _ _⟩

end Go.Proofs.Ytdjlcpfjemmlgaa

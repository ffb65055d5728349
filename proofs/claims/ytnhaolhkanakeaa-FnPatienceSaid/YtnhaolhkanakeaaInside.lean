/- The contract of laws.inside. -/
import Derived.Test.YtnhaolhkanakeaaChecked
import Derived.Test.YtnhaolhkanakeaaWords
namespace Go.Proofs.Ytnhaolhkanakeaa
open Go.RowKit

set_option maxHeartbeats 400000 in
theorem inside_yes (a n : Int) (w : World) (h0 : 0 ≤ a) (h1 : a ≤ n) :
    Calls Try.prog 27 #[.int .i64 a, .int .i64 n] w fun e w' => e = .returned (.bool true) ∧ w = w' := by
  go_enter Try.func27, Try.ntmps27
  go_wp2
  go_ret
  exact ⟨rfl, rfl⟩
set_option maxHeartbeats 400000 in
theorem inside_no (a n : Int) (w : World) (h : ¬ (0 ≤ a ∧ a ≤ n)) :
    Calls Try.prog 27 #[.int .i64 a, .int .i64 n] w fun e w' => e = .returned (.bool false) ∧ w = w' := by
  by_cases h0 : 0 ≤ a
  · have h1 : ¬ a ≤ n := fun h2 => h ⟨h0, h2⟩
    have hd : decide (a ≤ n) = false := by simpa using h1
    clear h
    go_enter Try.func27, Try.ntmps27
    go_wp2
    go_ret
    exact ⟨rfl, rfl⟩
  · have hd : decide (0 ≤ a) = false := by simpa using h0
    clear h
    go_enter Try.func27, Try.ntmps27
    go_wp2
    go_ret
    exact ⟨rfl, rfl⟩
end Go.Proofs.Ytnhaolhkanakeaa

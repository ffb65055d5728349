/- FnStableSteps returns true: for every list and script. -/
import Derived.Test.YtdojnocmapkodaaStableSteps
import Derived.Test.YtdojnocmapkodaaRanksOf
import Derived.Test.YtdojnocmapkodaaSame
import Derived.Test.YtdojnocmapkodaaOpenMore
namespace Go.Proofs.Ytdojnocmapkodaa
open Go.RowKit
set_option maxHeartbeats 4000000 in
theorem wFnStableSteps (A0 : Option Addr) (n0 c0 : Nat) (l0 : List (Int × Int)) (A1 : Option Addr) (n1 c1 : Nat) (ts : List Tab) (w : World)
    (r0 : Rd w w.heap.size 2 A0 n0 (cI l0)) (_z0 : ∀ y ∈ l0, InI y.1 ∧ InI y.2) (le0 : n0 ≤ c0) (b0 : c0 * 16 ≤ 140737488351232)
    (r1 : RdS w w.heap.size A1 n1 ts) (_z1 : ∀ y ∈ ts, ∀ z ∈ y.r, InI z) (le1 : n1 ≤ c1) (b1 : c1 * 24 ≤ 140737488351232) :
    Calls Try.prog 5 #[.slice A0 n0 c0, .slice A1 n1 c1] w fun e w' => e = .returned (.bool true) ∧ Below w.heap.size w w' := by
  clear _z0 _z1
  have hn : n0 * 16 ≤ 140737488351232 := by omega
  have hn1 : n1 * 24 ≤ 140737488351232 := by omega
  have R0 := Lib.hid r0
  have R1 := Lib.hid r1
  clear r0 r1
  go_enter Try.func5, Try.ntmps5
  go_wp2_with (first
    | (go_at_call 17; refine (StableSteps_any l0 A0 n0 c0 ts A1 n1 c1 _ R0.out R1.out (by omega) (by omega)).mono ?_; rintro e w1 ⟨A2, c2, rfl, o2, hb1⟩; have r2 := Lib.hid (Rd.of_own o2); clear o2)
    | (go_at_call 21; refine (theirs_any l0 A0 n0 c0 _ (R0.out.on hb1) hn).mono ?_; rintro e w2 ⟨A3, c3, rfl, o3, hb2⟩; have r3 := Lib.hid (Rd.of_own o3); clear o3; have b2 := below_step hb1 hb2)
    | (go_at_call 22; refine (ranksOf_any ts A1 n1 c1 _ (R1.out.on b2) hn1).mono ?_; rintro e w3 ⟨A4, c4, rfl, o4, _, hb3⟩; have r4 := Lib.hid o4; clear o4)
    | (go_at_call 20; refine (Steps_any l0 A3 n0 c3 ts A4 n1 c4 _ (r3.out.on hb3) r4.out hn (by omega)).mono ?_; rintro e w4 ⟨A5, c5, rfl, o5, hb4⟩; have r5 := Lib.hid (Rd.of_own o5); clear o5)
    | (go_at_call 19; refine (items_any _ A5 n0 c5 _ r5.out hn).mono ?_; rintro e w5 ⟨A6, c6, rfl, o6, hb5⟩; have r6 := Lib.hid (Rd.of_own o6); clear o6; have b5 := Lib.hid (below_step (below_step (below_step hb2 hb3) hb4) hb5))
    | (go_at_call 18; refine (same_items _ A2 A6 n0 c2 c6 _ (r2.out.on b5.out) r6.out (by omega)).mono ?_; rintro e w6 ⟨rfl, hb6⟩))
  go_ret
  exact ⟨rfl, below_step (below_step hb1 b5.out) hb6⟩
end Go.Proofs.Ytdojnocmapkodaa

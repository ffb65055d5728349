/- The contract of laws.same, at two lists of ints that are the same: true. -/
import Derived.Test.YtbfeokhkmlcgaaaTheirs
import Derived.RegionTactic
namespace Go.Proofs.Ytbfeokhkmlcgaaa
open Go.RowKit

set_option maxHeartbeats 2000000 in
theorem same_ints (l : List Int) (A B : Option Addr) (n c k : Nat) (w : World) (ha : Rd w w.heap.size 1 A n (cZ l)) (hb : Rd w w.heap.size 1 B n (cZ l)) (hn : n ≤ 9223372036854775806) :
    Calls Try.prog 25 #[.slice A n c, .slice B n k] w fun e w' => e = .returned (.bool true) ∧ Below w.heap.size w w' := by
  go_enter Try.func25, Try.ntmps25
  go_wp2
  go_loopw [13] (fun v wr => ∃ i : Nat, i ≤ n ∧ v = .int .i64 i ∧ Below w.heap.size w wr) (fun v _ => n - (intOf v).toNat)
  case atStart => exact ⟨0, Nat.zero_le _, rfl, Below.refl _ _⟩
  case round =>
    obtain ⟨i, hi, rfl, hbel⟩ := hrel
    by_cases hlt : i < n
    · obtain ⟨b1, o1, rfl, _, x1⟩ := rdZ_at (k := i) (ha.on hbel) hlt
      obtain ⟨b2, o2, rfl, _, x2⟩ := rdZ_at (k := i) (hb.on hbel) hlt
      clear ha hb
      have i0 : (0 : Int) ≤ (i : Int) := Int.natCast_nonneg _
      have i1 : (i : Int) < (n : Int) := by omega
      go_wp2_with fail
      skip
      go_region
      all_goals go_wp2
      all_goals go_roundw
      all_goals first
        | exact ⟨i + 1, by omega, by go_num, hbel.drew⟩
        | (simp [intOf]; omega)
    · obtain rfl : i = n := by omega
      go_wp2
      go_ret
      exact ⟨rfl, hbel⟩
end Go.Proofs.Ytbfeokhkmlcgaaa

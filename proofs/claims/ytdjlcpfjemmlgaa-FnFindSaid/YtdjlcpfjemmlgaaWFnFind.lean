/- FnFind returns true: for every n and every table. -/
import Derived.Test.YtdjlcpfjemmlgaaSigns
import Derived.Test.YtdjlcpfjemmlgaaOpen
namespace Go.Proofs.Ytdjlcpfjemmlgaa
open Go.RowKit

set_option maxHeartbeats 1000000 in
theorem wFnFind (a0 : Int) (A1 : Option Addr) (n1 c1 : Nat) (l1 : List Int) (w : World) (i0 : InI a0) (r1 : Rd w w.heap.size 1 A1 n1 (cZ l1)) (_z1 : ∀ y ∈ l1, InI y) (le1 : n1 ≤ c1) (b1 : c1 * 8 ≤ 140737488351232) :
    Calls Try.prog 10 #[.int .i64 a0, .slice A1 n1 c1] w fun e w' => e = .returned (.bool true) ∧ Below w.heap.size w w' := by
  clear _z1
  by_cases h0 : a0 < 0
  · go_enter Try.func10, Try.ntmps10
    go_wp2
    go_ret
    exact ⟨rfl, Below.refl _ _⟩
  · obtain ⟨n, rfl⟩ := Int.eq_ofNat_of_zero_le (Int.not_lt.1 h0)
    have hn : n ≤ 9223372036854775807 := by have := i0.2; omega
    clear i0
    have hd : decide ((n : Int) < 0) = false := by simp
    go_enter Try.func10, Try.ntmps10
    go_wp2_with fail
    refine (Falling_any l1 A1 n1 c1 n w r1 hn (by omega)).mono ?_
    rintro e w' ⟨b, hb, rfl, rfl⟩
    have HB := Lib.hid hb
    clear hb
    cases b
    · go_wp2
      go_ret
      exact ⟨rfl, Below.refl _ _⟩
    · go_wp2_with fail
      refine (Find_any l1 A1 n1 c1 n w r1 hn).mono ?_
      rintro e w' ⟨r, hc, rfl, hb⟩
      go_wp2_with fail
      refine (Found_any l1 A1 n1 c1 n w' (r1.on hb) hn).mono ?_
      rintro e w'' ⟨s, hs, rfl, rfl⟩
      obtain rfl : r = s := (hc.first (HB.out.1 (by first | rfl | trivial)).mono).uniq hs
      clear hc hs HB r1
      go_wp2
      go_ret
      exact ⟨by simp, hb⟩
end Go.Proofs.Ytdjlcpfjemmlgaa

/- FnSearch returns true: for every n and every table. -/
import Derived.Test.YtdjlcpfjemmlgaaTabs
import Derived.Test.YtdjlcpfjemmlgaaOpen
namespace Go.Proofs.Ytdjlcpfjemmlgaa
open Go.RowKit

theorem ret_true {p : Prop} [Decidable p] (h : p) : Ending.returned (.bool (decide p)) = .returned (.bool true) := by rw [decide_eq_true h]

set_option maxHeartbeats 400000 in
theorem wFnSearch (a0 : Int) (A1 : Option Addr) (n1 c1 : Nat) (l1 : List Bool) (w : World) (i0 : InI a0) (r1 : Rd w w.heap.size 1 A1 n1 (cB l1)) (le1 : n1 ≤ c1) (b1 : c1 * 1 ≤ 140737488351232) :
    Calls Try.prog 4 #[.int .i64 a0, .slice A1 n1 c1] w fun e w' => e = .returned (.bool true) ∧ Below w.heap.size w w' := by
  by_cases h0 : a0 < 0
  · go_enter Try.func4, Try.ntmps4
    go_wp2
    go_ret
    exact ⟨rfl, Below.refl _ _⟩
  · obtain ⟨n, rfl⟩ := Int.eq_ofNat_of_zero_le (Int.not_lt.1 h0)
    have hn : n ≤ 9223372036854775807 := by have := i0.2; omega
    have hR := Rising_any l1 A1 n1 c1 n w r1 hn (by omega)
    have HR := Lib.hid hR
    clear hR i0
    have hd : decide ((n : Int) < 0) = false := by simp
    go_enter Try.func4, Try.ntmps4
    go_wp2_with fail
    refine HR.out.mono ?_
    rintro e w' ⟨b, hb, rfl, rfl⟩
    have HB := Lib.hid hb
    clear hb
    cases b
    · go_wp2
      go_ret
      exact ⟨rfl, Below.refl _ _⟩
    · go_wp2_with fail
      refine (Search_any l1 A1 n1 c1 n w r1 hn).mono ?_
      rintro e w' ⟨r, hc, rfl, hb⟩
      go_wp2_with fail
      refine (First_any l1 A1 n1 c1 n w' (r1.on hb) hn (by omega)).mono ?_
      rintro e w'' ⟨s, hs, rfl, rfl⟩
      obtain rfl : r = s := (hc.first (HB.out.1 (by first | rfl | trivial)).mono).uniq hs
      clear hc hs HB HR r1
      go_wp2
      go_ret
      exact ⟨by simp, hb⟩
end Go.Proofs.Ytdjlcpfjemmlgaa

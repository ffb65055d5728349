/- FnQuotient returns true: for every n, factor and number. -/
import Derived.Test.YtnhaolhkanakeaaCurve
namespace Go.Proofs.Ytnhaolhkanakeaa
open Go.RowKit

theorem quo_cut (n F L r : Nat) (hF : 1 ≤ F) (h : Cut (overB F L 1) n r) : r = min n (L / F + 1) := by
  refine Step.cut (p := overB F L 1) (n := n) ⟨by omega, fun j hj => ?_⟩ h
  unfold overB cur
  rw [decide_eq_decide, show pw 1 = 1 from rfl, Nat.pow_one]
  have h1 : L < F * j ↔ L / F < j := by rw [Nat.div_lt_iff_lt_mul (by omega), Nat.mul_comm]
  rw [h1]
  omega

set_option maxHeartbeats 2000000 in
theorem wFnQuotient (a0 a1 a2 : Int) (w : World) (i0 : InI a0) (i1 : 0 ≤ a1 ∧ a1 ≤ 18446744073709551615) (i2 : 0 ≤ a2 ∧ a2 ≤ 18446744073709551615) :
    Calls Try.prog 7 #[.int .i64 a0, .int .u64 a1, .int .u64 a2] w fun e w' => e = .returned (.bool true) ∧ Below w.heap.size w w' := by
  by_cases h0 : a0 < 0
  · go_enter Try.func7, Try.ntmps7
    go_wp2
    go_ret
    exact ⟨rfl, Below.refl _ _⟩
  · have d0 : decide (a0 < 0) = false := by simpa using h0
    by_cases h1 : a1 < 1
    · go_enter Try.func7, Try.ntmps7
      go_wp2
      go_ret
      exact ⟨rfl, Below.refl _ _⟩
    · obtain ⟨n, rfl⟩ := Int.eq_ofNat_of_zero_le (Int.not_lt.1 h0)
      obtain ⟨F, rfl⟩ := Int.eq_ofNat_of_zero_le i1.1
      obtain ⟨L, rfl⟩ := Int.eq_ofNat_of_zero_le i2.1
      have hn : n ≤ 9223372036854775807 := by have := i0.2; omega
      have hF : F < 18446744073709551616 := by omega
      have hL : L < 18446744073709551616 := by omega
      have hF1 : 1 ≤ F := by omega
      have d1 : decide ((F : Int) < 1) = false := by simpa using h1
      clear i0 i1 i2 h1
      go_enter Try.func7, Try.ntmps7
      go_wp2_with fail
      refine (SearchCurve_any n F L 1 w hn hF hL).mono ?_
      rintro e W ⟨r, hc, rfl, hb⟩
      have hr := quo_cut n F L r hF1 hc
      clear hc
      obtain ⟨q, hq⟩ : ∃ q, q = L / F := ⟨_, rfl⟩
      have hqi : (L : Int) / (F : Int) = (q : Int) := by rw [hq]; simp
      rw [← hq] at hr
      have hqL : q ≤ L := by rw [hq]; exact Nat.div_le_self _ _
      clear hq
      by_cases hlt : q < n
      · obtain rfl : r = q + 1 := by omega
        clear hr
        have e1 : (((q + 1 : Nat) : Int) == (q : Int) + 1) = true := by simp
        go_wp2
        go_ret
        exact ⟨by simp, hb⟩
      · obtain rfl : r = n := by omega
        clear hr
        have e1 : ¬ ((q : Int) < (r : Int)) := by omega
        go_wp2
        go_ret
        exact ⟨by simp, hb⟩
end Go.Proofs.Ytnhaolhkanakeaa

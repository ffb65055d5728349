/- FnRoots returns true: for every number and every power. -/
import Derived.Test.YtnhaolhkanakeaaCurveMax
import Derived.Test.YtnhaolhkanakeaaWFnRootOfRoot
namespace Go.Proofs.Ytnhaolhkanakeaa
open Go.RowKit

def PowerRes (x k : Nat) (w : World) (e : Ending) (w' : World) : Prop :=
  (x ^ k < 18446744073709551616 ∧ ∃ p : Nat, p = x ^ k ∧ e = .returned (.tuple #[.int .u64 p, .bool true]) ∧ w = w') ∨ (e = .returned (.tuple #[.int .u64 0, .bool false]) ∧ w = w')

set_option maxHeartbeats 2000000 in
theorem power_any (x k : Nat) (w : World) (hx : x < 18446744073709551616) (hk : k ≤ 4) :
    Calls Try.prog 26 #[.int .u64 x, .int .i64 k] w (PowerRes x k w) := by
  go_enter Try.func26, Try.ntmps26
  go_wp2
  go_loop [6, 10] (fun nv kv => ∃ (j n : Nat), nv = .int .u64 n ∧ kv = .int .i64 j ∧ j ≤ k ∧ n < 18446744073709551616 ∧ Hid (n = x ^ j)) (fun _ kv => k - (intOf kv).toNat)
  case atStart => exact ⟨0, 1, rfl, rfl, Nat.zero_le _, by omega, by simp [Hid]⟩
  case round =>
    obtain ⟨j, n, rfl, rfl, hj, hn, HN⟩ := hrel
    by_cases hlt : j < k
    · go_wp2_with fail
      refine (mul64_any n x hn hx _).mono ?_
      rintro e w' ⟨rfl, rfl⟩
      by_cases hh : 0 < hi64 n x
      · go_wp2
        go_ret2
        exact Or.inr ⟨rfl, rfl⟩
      · have hlo : Hid (lo64 n x = x ^ (j + 1)) := by unfold Hid; rw [lo_of_hi (by omega), HN.out, Nat.pow_succ]
        have hll := lo_lt n x
        generalize hi64 n x = h at hh
        obtain rfl : h = 0 := by omega
        go_wp2
        go_round
        case rel => exact ⟨j + 1, lo64 n x, rfl, by go_num, by omega, hll, hlo⟩
        case measure => simp [intOf]; omega
    · obtain rfl : j = k := by omega
      have HX : Hid (x ^ j < 18446744073709551616) := by unfold Hid; rw [← HN.out]; exact hn
      go_wp2
      go_ret2
      exact Or.inl ⟨HX.out, n, HN.out, rfl, rfl⟩

theorem root_past {x k r : Nat} (hk : 1 ≤ k) (hk4 : k ≤ 4) (hx : x + 2 ≤ maxI) (h : Cut (overB 1 (x ^ k) k) maxI r) : r = x + 1 := by
  have hp : pw (k : Int) = k := by unfold pw; rw [if_pos (by omega)]; simp
  refine Step.cut (p := overB 1 (x ^ k) k) (n := maxI) ⟨by omega, fun j _ => ?_⟩ h
  rw [over_one _ _ _ k hp, decide_eq_decide]
  constructor
  · intro h; have := lt_of_pow_lt_pow_left₀' h; omega
  · intro h; exact Nat.pow_lt_pow_left (by omega) (by omega)
theorem root_begin {x k r : Nat} (hk : 1 ≤ k) (hk4 : k ≤ 4) (hx1 : 1 ≤ x) (hx : x + 2 ≤ maxI) (h : Cut (overB 1 (x ^ k - 1) k) maxI r) : r = x := by
  have hp : pw (k : Int) = k := by unfold pw; rw [if_pos (by omega)]; simp
  have hpos : 0 < x ^ k := Nat.pow_pos (by omega)
  refine Step.cut (p := overB 1 (x ^ k - 1) k) (n := maxI) ⟨by omega, fun j _ => ?_⟩ h
  rw [over_one _ _ _ k hp, decide_eq_decide]
  constructor
  · intro h
    rcases Nat.lt_or_ge j x with hlt | hge
    · have := Nat.pow_lt_pow_left hlt (show k ≠ 0 by omega); omega
    · exact hge
  · intro h; have := Nat.pow_le_pow_left h k; omega

set_option maxHeartbeats 2000000 in
theorem wFnRoots (a0 a1 : Int) (w : World) (i0 : 0 ≤ a0 ∧ a0 ≤ 18446744073709551615) (_i1 : InI a1) :
    Calls Try.prog 10 #[.int .u64 a0, .int .i64 a1] w fun e w' => e = .returned (.bool true) ∧ Below w.heap.size w w' := by
  clear _i1
  by_cases h1 : a1 < 1
  · go_enter Try.func10, Try.ntmps10
    go_wp2
    go_ret
    exact ⟨rfl, Below.refl _ _⟩
  · have d1 : decide (a1 < 1) = false := by simpa using h1
    by_cases h2 : 4 < a1
    · go_enter Try.func10, Try.ntmps10
      go_wp2
      go_ret
      exact ⟨rfl, Below.refl _ _⟩
    · have d2 : decide (4 < a1) = false := by simpa using h2
      by_cases h3 : a0 < 1
      · go_enter Try.func10, Try.ntmps10
        go_wp2
        go_ret
        exact ⟨rfl, Below.refl _ _⟩
      · have d3 : decide (a0 < 1) = false := by simpa using h3
        by_cases h4 : 9223372036854775805 < a0
        · go_enter Try.func10, Try.ntmps10
          go_wp2
          go_ret
          exact ⟨rfl, Below.refl _ _⟩
        · have d4 : decide (9223372036854775805 < a0) = false := by simpa using h4
          obtain ⟨x, rfl⟩ := Int.eq_ofNat_of_zero_le i0.1
          obtain ⟨k, rfl⟩ := Int.eq_ofNat_of_zero_le (show 0 ≤ a1 by omega)
          have hx1 : 1 ≤ x := by omega
          have hx2 : x ≤ 9223372036854775805 := by omega
          have hk1 : 1 ≤ k := by omega
          have hk4 : k ≤ 4 := by omega
          have hxm : Hid (x + 2 ≤ maxI) := by unfold Hid; rw [maxI_nat]; omega
          clear i0 h1 h2 h3 h4
          go_enter Try.func10, Try.ntmps10
          go_wp2_with fail
          refine (power_any x k w (by omega) hk4).mono ?_
          rintro e w1 (⟨hlt, p, hp, rfl, rfl⟩ | ⟨rfl, rfl⟩)
          · have hp1 : 1 ≤ p := by rw [hp]; exact Nat.pow_pos (by omega)
            have hpl : p < 18446744073709551616 := by rw [hp]; exact hlt
            have HP := Lib.hid hp
            clear hp hlt
            go_wp2_with fail
            refine (SearchCurve_max 1 p k w (by omega) hpl).mono ?_
            rintro e w2 ⟨r, hc, rfl, hb2⟩
            have hr : r = x + 1 := by rw [HP.out] at hc; exact root_past hk1 hk4 hxm.out hc
            subst hr
            clear hc
            go_wp2_with fail
            rw [show (p : Int) - 1 = ((p - 1 : Nat) : Int) by omega]
            refine (SearchCurve_max 1 (p - 1) k w2 (by omega) (by omega)).mono ?_
            rintro e w3 ⟨r, hc, rfl, hb3⟩
            have hr : r = x := by rw [HP.out] at hc; exact root_begin hk1 hk4 hx1 hxm.out hc
            subst hr
            clear hc
            have e1 : (((r + 1 : Nat) : Int) == (r : Int) + 1) = true := by simp
            go_wp2
            go_ret
            exact ⟨by simp, below_step hb2 hb3⟩
          · go_wp2
            go_ret
            exact ⟨rfl, Below.refl _ _⟩
end Go.Proofs.Ytnhaolhkanakeaa

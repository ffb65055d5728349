/- FnQuotientOfQuotient returns true: for every two factors and every number. -/
import Derived.Test.YtnhaolhkanakeaaCurveMax
import Derived.Test.YtnhaolhkanakeaaWFnQuotient
import Derived.Test.YtnhaolhkanakeaaRank
namespace Go.Proofs.Ytnhaolhkanakeaa
open Go.RowKit
attribute [local go_sem ↓] Go.wp_at_zero Go.wp_at_succ

set_option maxHeartbeats 2000000 in
theorem quotient_any (N F q : Nat) (w : World) (hN : N ≤ 9223372036854775805) (hF : F < 18446744073709551616) (hF1 : 1 ≤ F) (hq : q = N / F) :
    Calls Try.prog 24 #[.int .u64 N, .int .u64 F] w fun e w' => e = .returned (.int .u64 q) ∧ Below w.heap.size w w' := by
  have hqL : q ≤ N := by rw [hq]; exact Nat.div_le_self _ _
  have HQ := Lib.hid hq
  clear hq
  go_enter Try.func24, Try.ntmps24
  go_wp2_with fail
  refine (SearchCurve_max F N 1 w hF (by omega)).mono ?_
  rintro e W ⟨r, hc, rfl, hb⟩
  have hr := quo_cut maxI F N r hF1 hc
  clear hc
  rw [← HQ.out] at hr
  have hr' : r = q + 1 := by rw [maxI_nat] at hr; omega
  subst hr'
  clear hr
  go_wp2
  go_ret
  exact ⟨by simp, hb⟩
theorem enters_quotient : ∀ args w, (callFunc 24 args).run Try.prog w = .ok (.enter 24 args) w := Go.Proofs.enters_of Try.func24 (by kernel_rfl) rfl

set_option maxHeartbeats 4000000 in
theorem wFnQuotientOfQuotient (a0 a1 a2 : Int) (w : World) (i0 : 0 ≤ a0 ∧ a0 ≤ 18446744073709551615) (i1 : 0 ≤ a1 ∧ a1 ≤ 18446744073709551615) (i2 : 0 ≤ a2 ∧ a2 ≤ 18446744073709551615) :
    Calls Try.prog 8 #[.int .u64 a0, .int .u64 a1, .int .u64 a2] w fun e w' => e = .returned (.bool true) ∧ Below w.heap.size w w' := by
  obtain ⟨a, rfl⟩ := Int.eq_ofNat_of_zero_le i0.1
  obtain ⟨b, rfl⟩ := Int.eq_ofNat_of_zero_le i1.1
  obtain ⟨N, rfl⟩ := Int.eq_ofNat_of_zero_le i2.1
  have ha : a < 18446744073709551616 := by omega
  have hb : b < 18446744073709551616 := by omega
  have hN : N < 18446744073709551616 := by omega
  clear i0 i1 i2
  have hM := Lib.hid (mul64_any a b ha hb w)
  by_cases h0 : a < 1
  · go_enter Try.func8, Try.ntmps8
    go_wp2_with fail
    refine hM.out.mono ?_
    rintro e w' ⟨rfl, rfl⟩
    go_wp2
    go_ret
    exact ⟨rfl, Below.refl _ _⟩
  · have d0 : decide (a < 1) = false := by simpa using h0
    by_cases h1 : b < 1
    · go_enter Try.func8, Try.ntmps8
      go_wp2_with fail
      refine hM.out.mono ?_
      rintro e w' ⟨rfl, rfl⟩
      go_wp2
      go_ret
      exact ⟨rfl, Below.refl _ _⟩
    · have d1 : decide (b < 1) = false := by simpa using h1
      by_cases h2 : 0 < hi64 a b
      · have d2 : decide (0 < hi64 a b) = true := by simpa using h2
        go_enter Try.func8, Try.ntmps8
        go_wp2_with fail
        refine hM.out.mono ?_
        rintro e w' ⟨rfl, rfl⟩
        go_wp2
        go_ret
        exact ⟨rfl, Below.refl _ _⟩
      · have d2 : decide (0 < hi64 a b) = false := by simpa using h2
        by_cases h3 : 9223372036854775805 < N
        · go_enter Try.func8, Try.ntmps8
          go_wp2_with fail
          refine hM.out.mono ?_
          rintro e w' ⟨rfl, rfl⟩
          go_wp2
          go_ret
          exact ⟨rfl, Below.refl _ _⟩
        · have d3 : decide (9223372036854775805 < N) = false := by simpa using h3
          have hlo : Hid (lo64 a b = a * b) := lo_of_hi (by omega)
          have hll := lo_lt a b
          have hl1 : 1 ≤ lo64 a b := by rw [hlo.out]; exact Nat.mul_pos (by omega) (by omega)
          obtain ⟨qa, hqa⟩ : ∃ qa, qa = N / a := ⟨_, rfl⟩
          obtain ⟨q, hq⟩ : ∃ q, q = qa / b := ⟨_, rfl⟩
          have hqd : q = N / lo64 a b := by rw [hq, hqa, hlo.out, Nat.div_div_eq_div_mul]
          have hNa : qa ≤ N := by rw [hqa]; exact Nat.div_le_self _ _
          have hqN : q ≤ qa := by rw [hq]; exact Nat.div_le_self _ _
          have hq1 := Lib.hid (fun W => quotient_any N (lo64 a b) q W (by omega) hll hl1 hqd)
          have hq2 := Lib.hid (fun W => quotient_any N a qa W (by omega) ha (by omega) hqa)
          have hq3 := Lib.hid (fun W => quotient_any qa b q W (by omega) hb (by omega) hq)
          have hdiv : (N : Int) / (lo64 a b : Int) = (q : Int) := by rw [hqd]; simp
          clear hlo hqa hq hqd
          go_enter Try.func8, Try.ntmps8
          go_wp2_with fail
          refine hM.out.mono ?_
          rintro e w' ⟨rfl, rfl⟩
          generalize lo64 a b = L at hll hl1 hq1 hdiv
          generalize hi64 a b = h at h2 d2
          obtain rfl : h = 0 := by omega
          have hwq : IntKind.u64.wrap (q : Int) = (q : Int) := m_wrap q (by omega)
          have hL0 : ¬ L = 0 := by omega
          have hwt : IntKind.u64.wrap ((N : Int).tdiv (L : Int)) = (q : Int) := by rw [Int.tdiv_eq_ediv_of_nonneg (by omega), hdiv]; exact hwq
          go_wp2_with fail
          go_region_held3 (fun w' => 0 ≤ w'.heap.size ∧ Below w.heap.size w w') (first | (exact ⟨Nat.zero_le _, (Below.refl _ _).drew⟩) | (go_split_ands; exact ⟨Nat.zero_le _, nx_step (by assumption) hbc⟩))
            (first
              | (go_at_call 24; go_split_ands; ((with_reducible refine (hq1.out _).mono ?_); rintro e w1 ⟨rfl, hbc'⟩; have hbc := nx hbc'; clear hbc'))
              | (go_at_call 24; go_split_ands; ((with_reducible refine (hq2.out _).mono ?_); rintro e w1 ⟨rfl, hbc'⟩; have hbc := nx hbc'; clear hbc'))
              | (go_at_call 24; go_split_ands; ((with_reducible refine (hq3.out _).mono ?_); rintro e w1 ⟨rfl, hbc'⟩; have hbc := nx hbc'; clear hbc')))
          all_goals
            go_wp2
            go_ret
            exact ⟨by simp, by go_split_ands; assumption⟩
end Go.Proofs.Ytnhaolhkanakeaa

/- FnSearchCurve returns true: for every n and every curve. -/
import Derived.Test.YtnhaolhkanakeaaCurve
namespace Go.Proofs.Ytnhaolhkanakeaa
open Go.RowKit

set_option maxHeartbeats 2000000 in
theorem atMost_any (F L : Nat) (p : Int) (i : Nat) (w : World) (hF : F < 18446744073709551616) (hL : L < 18446744073709551616) (hi : i < 18446744073709551616) :
    Calls Try.prog 28 #[.agg #[.int .u64 F, .int .u64 L, .int .i64 p], .int .u64 i] w fun e w' => e = .returned (.bool (!overB F L p i)) ∧ Below w.heap.size w w' := by
  have hb0 : Below w.heap.size w (w.alloc (.cells #[.int .u64 F, .int .u64 L, .int .i64 p] 48)) := (Below.refl _ _).alloc (Nat.le_refl _) _
  go_enter Try.func28, Try.ntmps28
  go_wp2
  go_loop [5, 6] (fun nv kv => ∃ (k n : Nat), nv = .int .u64 n ∧ kv = .int .i64 k ∧ k ≤ pw p ∧ k ≤ 4 ∧ n < 18446744073709551616 ∧ Hid (n = F * i ^ k)) (fun _ kv => pw p - (intOf kv).toNat)
  case atStart => exact ⟨0, F, rfl, rfl, Nat.zero_le _, by omega, hF, by simp [Hid]⟩
  case round =>
    obtain ⟨k, n, rfl, rfl, hk, hk4, hn, HN⟩ := hrel
    by_cases hlt : k < pw p
    · have hp : 0 ≤ p ∧ p ≤ 4 ∧ (k : Int) < p := by unfold pw at hlt; split at hlt <;> omega
      obtain ⟨hp0, hp4, hpk⟩ := hp
      go_wp2_with fail
      refine (mul64_any n i hn hi _).mono ?_
      rintro e w' ⟨rfl, rfl⟩
      by_cases hh : 0 < hi64 n i
      · have HO : Hid (overB F L p i = true) := by
          unfold Hid overB
          rw [decide_eq_true_eq]
          have := hi_pos hh
          rw [HN.out] at this
          exact Nat.lt_of_lt_of_le hL (pow_over F i k (pw p) hlt this)
        have hn0 : ((n : Int) == 0) = false := by
          rw [beq_eq_false_iff_ne]
          intro h
          have : n = 0 := by omega
          subst this
          have := hi_pos hh
          omega
        have hi0 : ((i : Int) == 0) = false := by
          rw [beq_eq_false_iff_ne]
          intro h
          have : i = 0 := by omega
          subst this
          have := hi_pos hh
          omega
        go_wp2
        go_ret
        exact ⟨by rw [HO.out]; rfl, hb0⟩
      · have hlo : Hid (lo64 n i = F * i ^ (k + 1)) := by unfold Hid; rw [lo_of_hi (by omega), HN.out, Nat.mul_assoc, ← Nat.pow_succ]
        have hll := lo_lt n i
        generalize hi64 n i = h at hh
        obtain rfl : h = 0 := by omega
        go_wp2
        go_round
        case rel => exact ⟨k + 1, lo64 n i, rfl, by go_num, by omega, by unfold pw at hlt; split at hlt <;> omega, hll, hlo⟩
        case measure => simp [intOf]; omega
    · obtain rfl : k = pw p := by omega
      have HO : Hid ((!overB F L p i) = decide (n ≤ L)) := by
        unfold Hid overB cur
        rw [← HN.out]
        by_cases h : L < n
        · rw [decide_eq_true h, decide_eq_false (by omega)]; rfl
        · rw [decide_eq_false h, decide_eq_true (by omega)]; rfl
      have hcase : ¬ ((pw p : Int) < p) ∨ ¬ (p ≤ 4) := by unfold pw; split <;> omega
      clear hlt hk hk4
      generalize pw p = k at hcase HN
      by_cases h1 : (k : Int) < p
      · have hd4 : decide (p ≤ 4) = false := by simp; omega
        go_wp2
        go_ret
        exact ⟨by rw [HO.out]; simp, hb0⟩
      · have hd1 : decide ((k : Int) < p) = false := by simpa using h1
        go_wp2
        go_ret
        exact ⟨by rw [HO.out]; simp, hb0⟩

set_option maxHeartbeats 2000000 in
theorem wFnSearchCurve (a0 : Int) (F L : Nat) (p : Int) (w : World) (i0 : InI a0) (hc : F < 18446744073709551616 ∧ L < 18446744073709551616 ∧ InI p) :
    Calls Try.prog 11 #[.int .i64 a0, .agg #[.int .u64 F, .int .u64 L, .int .i64 p]] w fun e w' => e = .returned (.bool true) ∧ Below w.heap.size w w' := by
  obtain ⟨hF, hL, _⟩ := hc
  have hb0 : Below w.heap.size w (w.alloc (.cells #[.int .u64 F, .int .u64 L, .int .i64 p] 48)) := (Below.refl _ _).alloc (Nat.le_refl _) _
  by_cases h0 : a0 < 0
  · go_enter Try.func11, Try.ntmps11
    go_wp2
    go_ret
    exact ⟨rfl, hb0⟩
  · obtain ⟨n, rfl⟩ := Int.eq_ofNat_of_zero_le (Int.not_lt.1 h0)
    have hn : n ≤ 9223372036854775807 := by have := i0.2; omega
    clear i0
    go_enter Try.func11, Try.ntmps11
    go_wp2_with fail
    refine (SearchCurve_any n F L p _ hn hF hL).mono ?_
    rintro e W ⟨r, hcut, rfl, hb1⟩
    have hrn := hcut.1
    have e0 : W.cell? ⟨w.heap.size, 0, none⟩ = some (.int .u64 F) := (hb1.cell (by simp)).trans (by simp)
    have e1 : W.cell? ⟨w.heap.size, 1, none⟩ = some (.int .u64 L) := (hb1.cell (by simp)).trans (by simp)
    have e2 : W.cell? ⟨w.heap.size, 2, none⟩ = some (.int .i64 p) := (hb1.cell (by simp)).trans (by simp)
    have bw := below_step hb0 hb1
    have HC := Lib.hid hcut
    clear hcut hb1
    go_wp2_with fail
    refine (inside_yes _ _ W (by omega) (by omega)).mono ?_
    rintro e w' ⟨rfl, rfl⟩
    by_cases hrN : r = n
    · have d1 : ((r : Int) == (n : Int)) = true := by simp [hrN]
      have HRN := Lib.hid hrN
      clear hrN
      by_cases hr0 : r = 0
      · have d2 : ((r : Int) == 0) = true := by simp [hr0]
        clear hr0
        go_wp2
        go_ret
        exact ⟨rfl, bw⟩
      · have d2 : ((r : Int) == 0) = false := by simp [hr0]
        have hr1 : 1 ≤ r := by omega
        clear hr0
        go_wp2_with fail
        rw [show (r : Int) - 1 = ((r - 1 : Nat) : Int) by omega]
        refine (atMost_any F L p (r - 1) W hF hL (by omega)).mono ?_
        rintro e w2 ⟨rfl, hb2⟩
        rw [HC.out.2.1 (by omega)]
        go_wp2
        go_ret
        exact ⟨rfl, below_step bw hb2⟩
    · have d1 : ((r : Int) == (n : Int)) = false := by rw [beq_eq_false_iff_ne]; omega
      have hlt : r < n := by omega
      clear hrN
      go_wp2_with fail
      refine (atMost_any F L p r W hF hL (by omega)).mono ?_
      rintro e w2 ⟨rfl, hb2⟩
      rw [HC.out.2.2 hlt]
      have e0' : w2.cell? ⟨w.heap.size, 0, none⟩ = some (.int .u64 F) := (hb2.cell (World.block_lt_of_cell? _ _ e0)).trans e0
      have e1' : w2.cell? ⟨w.heap.size, 1, none⟩ = some (.int .u64 L) := (hb2.cell (World.block_lt_of_cell? _ _ e1)).trans e1
      have e2' : w2.cell? ⟨w.heap.size, 2, none⟩ = some (.int .i64 p) := (hb2.cell (World.block_lt_of_cell? _ _ e2)).trans e2
      by_cases hr0 : r = 0
      · have d2 : ((r : Int) == 0) = true := by simp [hr0]
        clear hr0
        go_wp2
        go_ret
        exact ⟨rfl, below_step bw hb2⟩
      · have d2 : ((r : Int) == 0) = false := by simp [hr0]
        have hr1 : 1 ≤ r := by omega
        clear hr0
        go_wp2_with fail
        rw [show (r : Int) - 1 = ((r - 1 : Nat) : Int) by omega]
        refine (atMost_any F L p (r - 1) w2 hF hL (by omega)).mono ?_
        rintro e w3 ⟨rfl, hb3⟩
        rw [HC.out.2.1 (by omega)]
        go_wp2
        go_ret
        exact ⟨rfl, below_step (below_step bw hb2) hb3⟩
end Go.Proofs.Ytnhaolhkanakeaa

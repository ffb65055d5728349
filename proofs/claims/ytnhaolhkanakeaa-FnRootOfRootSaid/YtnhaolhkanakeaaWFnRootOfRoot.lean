/- FnRootOfRoot returns true: for every number. -/
import Derived.Test.YtnhaolhkanakeaaCurveMax
import Derived.Test.YtnhaolhkanakeaaRank
namespace Go.Proofs.Ytnhaolhkanakeaa
open Go.RowKit

theorem over_one (L : Nat) (k : Int) (i q : Nat) (hk : pw k = q) : overB 1 L k i = decide (L < i ^ q) := by unfold overB cur; rw [hk, Nat.one_mul]
/-- The root of a number, as the code reckons it: one less than the place of the cut. -/
def RootInt (L : Nat) (k : Int) (w : World) (e : Ending) (w' : World) : Prop := ∃ r : Nat, r + 1 ≤ maxI ∧ Cut (overB 1 L k) maxI (r + 1) ∧ e = .returned (.int .u64 r) ∧ Below w.heap.size w w'

set_option maxHeartbeats 2000000 in
theorem root_any (L : Nat) (k : Int) (w : World) (hL : L < 18446744073709551616) (hk : 1 ≤ k) (hk4 : k ≤ 4) :
    Calls Try.prog 25 #[.int .u64 L, .int .i64 k] w (RootInt L k w) := by
  go_enter Try.func25, Try.ntmps25
  go_wp2_with fail
  refine (SearchCurve_max 1 L k w (by omega) hL).mono ?_
  rintro e W ⟨r, hc, rfl, hb⟩
  have hr1 : r ≠ 0 := by
    rintro rfl
    have := hc.2.2 (by rw [maxI_nat]; omega)
    unfold overB cur pw at this
    rw [if_pos ⟨by omega, hk4⟩, Nat.zero_pow (by omega)] at this
    simp at this
  obtain ⟨s, rfl⟩ : ∃ s, r = s + 1 := ⟨r - 1, by omega⟩
  have hs := hc.1
  have HC := Lib.hid hc
  have HS := Lib.hid hs
  rw [maxI_nat] at hs
  clear hc hr1
  go_wp2
  go_ret
  exact ⟨s, HS.out, HC.out, by simp, hb⟩

/-- What the cut says of the root. -/
theorem root_le {L : Nat} {k : Int} {q r : Nat} (hk : pw k = q) (h : Cut (overB 1 L k) maxI (r + 1)) : r ^ q ≤ L := by
  have := h.2.1 (by omega)
  rw [Nat.add_sub_cancel, over_one L k r q hk, decide_eq_false_iff_not] at this
  omega
theorem root_lt {L : Nat} {k : Int} {q r : Nat} (hk : pw k = q) (h : Cut (overB 1 L k) maxI (r + 1)) (hm : r + 1 < maxI) : L < (r + 1) ^ q := by
  have := h.2.2 hm
  rw [over_one L k (r + 1) q hk, decide_eq_true_eq] at this
  exact this
theorem small_of_sq {r L q : Nat} (hL : L < 18446744073709551616) (hq : 2 ≤ q) (h : r ^ q ≤ L) : r < 4294967296 := by
  rcases Nat.lt_or_ge r 4294967296 with hlt | hge
  · exact hlt
  · have h1 : 4294967296 ^ 2 ≤ r ^ 2 := Nat.pow_le_pow_left hge 2
    have h2 : r ^ 2 ≤ r ^ q := Nat.pow_le_pow_right (by omega) hq
    omega
theorem lt_of_pow_lt_pow_left₀' {a b n : Nat} (h : a ^ n < b ^ n) : a < b := by
  rcases Nat.lt_or_ge a b with hlt | hge
  · exact hlt
  · have := Nat.pow_le_pow_left hge n; omega
/-- The fourth root is the square root of the square root. -/
theorem root_root {L a b c : Nat} (hL : L < 18446744073709551616) (ha : Cut (overB 1 L 4) maxI (a + 1)) (hb : Cut (overB 1 L 2) maxI (b + 1)) (hc : Cut (overB 1 b 2) maxI (c + 1)) : a = c := by
  have a1 := root_le (q := 4) rfl ha
  have b1 := root_le (q := 2) rfl hb
  have c1 := root_le (q := 2) rfl hc
  have asm := small_of_sq hL (by omega) a1
  have bsm := small_of_sq hL (by omega) b1
  have csm := small_of_sq (L := b) (by omega) (by omega) c1
  have a2 := root_lt (q := 4) rfl ha (by rw [maxI_nat]; omega)
  have b2 := root_lt (q := 2) rfl hb (by rw [maxI_nat]; omega)
  have c2 := root_lt (q := 2) rfl hc (by rw [maxI_nat]; omega)
  have e4 : ∀ x : Nat, x ^ 4 = (x ^ 2) ^ 2 := fun x => by rw [← Nat.pow_mul]
  have h1 : c ≤ a := by
    have : c ^ 4 < (a + 1) ^ 4 := by
      rw [e4 c]
      exact Nat.lt_of_le_of_lt (Nat.le_trans (Nat.pow_le_pow_left c1 2) b1) a2
    have := lt_of_pow_lt_pow_left₀' this
    omega
  have h2 : a ≤ c := by
    have : (a ^ 2) ^ 2 < (b + 1) ^ 2 := by rw [← e4]; exact Nat.lt_of_le_of_lt a1 b2
    have h3 := lt_of_pow_lt_pow_left₀' this
    have : a ^ 2 < (c + 1) ^ 2 := by omega
    have := lt_of_pow_lt_pow_left₀' this
    omega
  omega
theorem root_first {L r : Nat} (h : Cut (overB 1 L 1) maxI (r + 1)) : r = min L (maxI - 1) := by
  have h1 := root_le (q := 1) rfl h
  rw [Nat.pow_one] at h1
  have hm := h.1
  rcases Nat.lt_or_ge (r + 1) maxI with hlt | hge
  · have h2 := root_lt (q := 1) rfl h hlt
    rw [Nat.pow_one] at h2
    omega
  · omega

set_option maxHeartbeats 2000000 in
theorem wFnRootOfRoot (a0 : Int) (w : World) (i0 : 0 ≤ a0 ∧ a0 ≤ 18446744073709551615) :
    Calls Try.prog 9 #[.int .u64 a0] w fun e w' => e = .returned (.bool true) ∧ Below w.heap.size w w' := by
  obtain ⟨L, rfl⟩ := Int.eq_ofNat_of_zero_le i0.1
  have hL : L < 18446744073709551616 := by omega
  clear i0
  go_enter Try.func9, Try.ntmps9
  go_wp2_with fail
  refine (root_any L 4 w hL (by omega) (by omega)).mono ?_
  rintro e w1 ⟨a, ha, ca, rfl, hb1⟩
  go_wp2_with fail
  refine (root_any L 2 w1 hL (by omega) (by omega)).mono ?_
  rintro e w2 ⟨b, hb, cb, rfl, hb2⟩
  have hbs := small_of_sq hL (by omega) (root_le (q := 2) rfl cb)
  go_wp2_with fail
  refine (root_any b 2 w2 (by omega) (by omega) (by omega)).mono ?_
  rintro e w3 ⟨c, hc, cc, rfl, hb3⟩
  obtain rfl := root_root hL ca cb cc
  clear ca cb cc hb hc hbs
  go_wp2_with fail
  refine (root_any L 1 w3 hL (by omega) (by omega)).mono ?_
  rintro e w4 ⟨r, hr, cr, rfl, hb4⟩
  have hr' := root_first cr
  rw [maxI_nat] at hr'
  clear cr hr ha
  by_cases hl : L ≤ 9223372036854775806
  · obtain rfl : r = L := by omega
    clear hr'
    go_wp2
    all_goals go_ret
    all_goals exact ⟨by simp, below_step (below_step (below_step hb1 hb2) hb3) hb4⟩
  · obtain rfl : r = 9223372036854775806 := by omega
    clear hr'
    go_wp2
    all_goals go_ret
    all_goals exact ⟨by simp, below_step (below_step (below_step hb1 hb2) hb3) hb4⟩
end Go.Proofs.Ytnhaolhkanakeaa

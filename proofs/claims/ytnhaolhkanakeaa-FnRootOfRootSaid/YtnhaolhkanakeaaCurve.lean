/- The contracts of Curve.above and impl.SearchCurve: where a curve passes its limit. -/
import Derived.Test.YtnhaolhkanakeaaMul
import Derived.Test.YtnhaolhkanakeaaSearch
import Derived.Test.YtnhaolhkanakeaaInside
import Derived.Test.YtnhaolhkanakeaaOpen
import Derived.Shelf.Abstract
namespace Go.Proofs.Ytnhaolhkanakeaa
open Go.RowKit Go.Shelf

/-- The power of a curve: 0 for what lies outside 0 to 4. -/
def pw (p : Int) : Nat := if 0 ≤ p ∧ p ≤ 4 then p.toNat else 0
/-- The number of a curve at i. -/
def cur (F : Nat) (p : Int) (i : Nat) : Nat := F * i ^ pw p
def overB (F L : Nat) (p : Int) (i : Nat) : Bool := decide (L < cur F p i)
theorem lo_of_hi {x y : Nat} (h : hi64 x y = 0) : lo64 x y = x * y := by
  unfold hi64 at h; unfold lo64
  have := Nat.div_add_mod (x * y) 18446744073709551616
  rw [h] at this
  omega
theorem hi_pos {x y : Nat} (h : 0 < hi64 x y) : 18446744073709551616 ≤ x * y := by
  unfold hi64 at h
  rcases Nat.lt_or_ge (x * y) 18446744073709551616 with hlt | hge
  · rw [Nat.div_eq_of_lt hlt] at h; omega
  · exact hge
theorem lo_lt (x y : Nat) : lo64 x y < 18446744073709551616 := Nat.mod_lt _ (by omega)
/-- If a product on the way passes 2^64, so does the number. -/
theorem pow_over (F i k q : Nat) (hk : k < q) (h : 18446744073709551616 ≤ F * i ^ k * i) : 18446744073709551616 ≤ F * i ^ q := by
  have hi : 0 < i := by
    rcases Nat.eq_zero_or_pos i with rfl | hi
    · simp at h
    · exact hi
  have h1 : F * i ^ k * i = F * i ^ (k + 1) := by rw [Nat.mul_assoc, ← Nat.pow_succ]
  rw [h1] at h
  exact Nat.le_trans h (Nat.mul_le_mul_left _ (Nat.pow_le_pow_right hi hk))

set_option maxHeartbeats 2000000 in
theorem above_any (F L : Nat) (p : Int) (i : Nat) (w : World) (hF : F < 18446744073709551616) (hL : L < 18446744073709551616) (hi : i ≤ 9223372036854775807) :
    Calls Try.prog 40 #[.agg #[.int .u64 F, .int .u64 L, .int .i64 p], .int .i64 i] w fun e w' => e = .returned (.bool (overB F L p i)) ∧ Below w.heap.size w w' := by
  have hb0 : Below w.heap.size w (w.alloc (.cells #[.int .u64 F, .int .u64 L, .int .i64 p] 48)) := (Below.refl _ _).alloc (Nat.le_refl _) _
  go_enter Try.func40, Try.ntmps40
  go_wp2
  go_loop [5, 6] (fun nv kv => ∃ (k n : Nat), nv = .int .u64 n ∧ kv = .int .i64 k ∧ k ≤ pw p ∧ k ≤ 4 ∧ n < 18446744073709551616 ∧ Hid (n = F * i ^ k)) (fun _ kv => pw p - (intOf kv).toNat)
  case atStart => exact ⟨0, F, rfl, rfl, Nat.zero_le _, by omega, hF, by simp [Hid]⟩
  case round =>
    obtain ⟨k, n, rfl, rfl, hk, hk4, hn, HN⟩ := hrel
    by_cases hlt : k < pw p
    · have hp : 0 ≤ p ∧ p ≤ 4 ∧ (k : Int) < p := by unfold pw at hlt; split at hlt <;> omega
      obtain ⟨hp0, hp4, hpk⟩ := hp
      go_wp2_with fail
      refine (mul64_any n i hn (by omega) _).mono ?_
      rintro e w' ⟨rfl, rfl⟩
      by_cases hh : 0 < hi64 n i
      · have HO : Hid (overB F L p i = true) := by
          unfold Hid overB
          rw [decide_eq_true_eq]
          have := hi_pos hh
          rw [HN.out] at this
          exact Nat.lt_of_lt_of_le hL (pow_over F i k (pw p) hlt this)
        go_wp2
        go_ret
        exact ⟨by rw [HO.out]; rfl, hb0⟩
      · have hlo : Hid (lo64 n i = F * i ^ (k + 1)) := by unfold Hid; rw [lo_of_hi (by omega), HN.out, Nat.mul_assoc, ← Nat.pow_succ]
        have hll := lo_lt n i
        generalize hi64 n i = h at hh
        obtain rfl : h = 0 := by omega
        go_wp2
        go_round
        case rel => exact ⟨k + 1, lo64 n i, rfl, by go_num, by omega, by unfold pw at hlt; split at hlt <;> omega, hll, hlo⟩
        case measure => simp [intOf]; omega
    · obtain rfl : k = pw p := by omega
      have HO : Hid (overB F L p i = decide (L < n)) := by unfold Hid overB cur; rw [HN.out]
      have hcase : ¬ ((pw p : Int) < p) ∨ ¬ (p ≤ 4) := by unfold pw; split <;> omega
      clear hlt hk hk4
      generalize pw p = k at hcase HN
      by_cases h1 : (k : Int) < p
      · have hd4 : decide (p ≤ 4) = false := by simp; omega
        go_wp2
        go_ret
        exact ⟨by rw [HO.out]; simp, hb0⟩
      · have hd1 : decide ((k : Int) < p) = false := by simpa using h1
        go_wp2
        go_ret
        exact ⟨by rw [HO.out]; simp, hb0⟩
theorem cur_mono (F : Nat) (p : Int) {i j : Nat} (h : i ≤ j) : cur F p i ≤ cur F p j := Nat.mul_le_mul_left _ (Nat.pow_le_pow_left h _)
theorem over_mono (F L : Nat) (p : Int) (n : Nat) : Mono (overB F L p) n := fun i j hij _ hp => by
  unfold overB at hp ⊢
  rw [decide_eq_true_eq] at hp ⊢
  exact Nat.lt_of_lt_of_le hp (cur_mono F p hij)
/-- What a method value answers, in every world that grew out of w. -/
def TellsM (g : Nat) (rv : Value) (w : World) (n : Nat) (p : Nat → Bool) : Prop :=
  ∀ (W : World) (i : Nat), Below w.heap.size w W → i < n → Calls Try.prog g #[rv, .int .i64 i] W fun e w' => e = .returned (.bool (p i)) ∧ Below W.heap.size W w'

set_option maxHeartbeats 1000000 in
set_option maxRecDepth 100000 in
/-- sort.Search with a method value: the receiver is bound. -/
theorem search_bound (g : Nat) (rv : Value) (n : Nat) (p : Nat → Bool) (w : World) (eg : ∀ args w, (callFunc g args).run Try.prog w = .ok (.enter g args) w) (hn : n ≤ 9223372036854775807)
    (hf : TellsM g rv w n p) : Calls Try.prog 31 #[.int .i64 n, .func (.func g) #[rv] #[]] w (CutInt p n w) := by
  go_enter Try.func31, Try.ntmps31
  go_wp2
  go_loopg [5, 6] n (fun kx s5 s6 wr => ∃ lo hi : Nat, s5 = .int .i64 lo ∧ s6 = .int .i64 hi ∧ lo ≤ hi ∧ hi ≤ n ∧ hi - lo ≤ kx ∧ Below w.heap.size w wr ∧
    Hid ((0 < lo → p (lo - 1) = false) ∧ (hi < n → p hi = true)))
  case atStart => exact ⟨0, n, rfl, rfl, Nat.zero_le _, Nat.le_refl _, by omega, Below.refl _ _, fun h => absurd h (by omega), fun h => absurd h (by omega)⟩
  case round =>
    obtain ⟨lo, hi, rfl, rfl, hlh, hin, hg, hbel, I⟩ := hrel
    by_cases hlt : lo < hi
    · go_wp2_with fail
      simp only [mid_wrap lo hi hlt (by omega)]
      have hc := hf wr ((lo + hi) / 2) hbel (by omega)
      obtain ⟨m, hm⟩ : ∃ m, m = (lo + hi) / 2 := ⟨_, rfl⟩
      rw [← hm] at hc ⊢
      have h1 : lo ≤ m := by omega
      have h2 : m < hi := by omega
      clear hm
      cases hp : p m <;> rw [hp] at hc
      · have HP := Lib.hid hp
        clear hp
        refine hc.mono ?_
        rintro e w' ⟨rfl, hb'⟩
        go_wp2
        go_roundg (hi - (m + 1))
        case measure => omega
        case rel => exact ⟨m + 1, hi, by go_num, rfl, by omega, hin, Nat.le_refl _, below_step hbel hb', fun _ => by rw [Nat.add_sub_cancel]; exact HP.out, I.out.2⟩
      · have HP := Lib.hid hp
        clear hp
        refine hc.mono ?_
        rintro e w' ⟨rfl, hb'⟩
        go_wp2
        go_roundg (m - lo)
        case measure => omega
        case rel => exact ⟨lo, m, rfl, rfl, by omega, by omega, Nat.le_refl _, below_step hbel hb', I.out.1, fun _ => HP.out⟩
    · obtain rfl : hi = lo := by omega
      go_wp2
      go_ret
      exact ⟨hi, ⟨hin, I.out⟩, rfl, hbel⟩

theorem enters_above : ∀ args w, (callFunc 40 args).run Try.prog w = .ok (.enter 40 args) w := enters_of Try.func40 (by kernel_rfl) rfl

set_option maxHeartbeats 1000000 in
/-- impl.SearchCurve, n of at least 0: the place from which on the curve is above its limit. -/
theorem SearchCurve_any (n F L : Nat) (p : Int) (w : World) (hn : n ≤ 9223372036854775807) (hF : F < 18446744073709551616) (hL : L < 18446744073709551616) :
    Calls Try.prog 22 #[.int .i64 n, .agg #[.int .u64 F, .int .u64 L, .int .i64 p]] w (CutInt (overB F L p) n w) := by
  have hb0 : Below w.heap.size w (w.alloc (.cells #[.int .u64 F, .int .u64 L, .int .i64 p] 48)) := (Below.refl _ _).alloc (Nat.le_refl _) _
  have hT : TellsM 40 (.agg #[.int .u64 F, .int .u64 L, .int .i64 p]) (w.alloc (.cells #[.int .u64 F, .int .u64 L, .int .i64 p] 48)) n (overB F L p) := fun W i _ hi =>
    above_any F L p i W hF hL (by omega)
  have HS := Lib.hid (search_bound _ _ n _ _ enters_above hn hT)
  clear hT
  go_enter Try.func22, Try.ntmps22
  go_wp2_with fail
  refine HS.out.mono ?_
  rintro e w' ⟨r, hc, rfl, hb⟩
  go_wp2
  go_ret
  exact ⟨r, hc, rfl, below_step hb0 hb⟩
end Go.Proofs.Ytnhaolhkanakeaa

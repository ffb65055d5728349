/- FnSearchThinned returns true: for every table and every step. -/
import Derived.Test.YtdjlcpfjemmlgaaTabs
import Derived.Test.YtdjlcpfjemmlgaaElems
import Derived.Test.YtdjlcpfjemmlgaaOpen
namespace Go.Proofs.Ytdjlcpfjemmlgaa
open Go.RowKit

theorem wrap_div (t q z : Nat) (h : t ≤ 9223372036854775807) (hz : z = t / q) : wrap64 ((t : Int) / (q : Int)) = (z : Int) := by
  have hzt : z ≤ t := by rw [hz]; exact Nat.div_le_self _ _
  rw [show ((t : Int) / (q : Int)) = ((t / q : Nat) : Int) by simp, ← hz]
  exact IntWalk.wrap64_in _ ⟨by omega, by omega⟩
theorem wrap_succ (z : Nat) (h : z < 9223372036854775807) : wrap64 ((z : Int) + 1) = ((z + 1 : Nat) : Int) := by rw [IntWalk.wrap64_in _ ⟨by omega, by omega⟩]; rfl
def thin (l : List Bool) (d k : Nat) : List Bool := (List.range k).map fun j => mk l (j * d)
theorem thin_snoc (l : List Bool) (d k : Nat) : cB (thin l d k) ++ (#[Value.bool (mk l (k * d))] : Array Value).toList = cB (thin l d (k + 1)) := by simp [thin, cB, List.range_succ]
theorem thin_len (l : List Bool) (d k : Nat) : (thin l d k).length = k := by simp [thin]
theorem ceil_le (s d j : Nat) (hd : 0 < d) : (s + d - 1) / d ≤ j ↔ s ≤ j * d := by
  rw [← Nat.lt_succ_iff, Nat.div_lt_iff_lt_mul hd, Nat.succ_mul]
  omega
theorem thin_step (l : List Bool) (n d K s : Nat) (hd : 0 < d) (hK : n ≤ K * d) (hK' : K = 0 ∨ (K - 1) * d < n) (h : Step (mk l) n s) : Step (mk (thin l d K)) K ((s + d - 1) / d) := by
  refine ⟨(ceil_le s d K hd).2 (Nat.le_trans h.1 hK), fun j hj => ?_⟩
  have hjn : j * d < n := by
    rcases hK' with h | h
    · omega
    · exact Nat.lt_of_le_of_lt (Nat.mul_le_mul_right d (by omega)) h
  rw [mk_lt (by rw [thin_len]; exact hj)]
  rw [show (thin l d K)[j]'(by rw [thin_len]; exact hj) = mk l (j * d) by simp [thin], h.2 _ hjn]
  by_cases hs : s ≤ j * d
  · rw [decide_eq_true hs, decide_eq_true ((ceil_le s d j hd).2 hs)]
  · rw [decide_eq_false hs, decide_eq_false (fun h => hs ((ceil_le s d j hd).1 h))]
theorem ceil_rem (s d : Nat) (hd : 0 < d) (h : 0 < s % d) : (s + d - 1) / d = s / d + 1 := by
  have h1 := Nat.div_add_mod s d
  have h2 := Nat.mod_lt s hd
  generalize s % d = m at h h1 h2
  generalize s / d = q at h1 ⊢
  subst h1
  rw [show d * q + m + d - 1 = d * (q + 1) + (m - 1) by rw [Nat.mul_add]; omega, Nat.mul_add_div hd, Nat.div_eq_of_lt (by omega), Nat.add_zero]
theorem ceil_no (s d : Nat) (hd : 0 < d) (h : s % d = 0) : (s + d - 1) / d = s / d := by
  have h1 := Nat.div_add_mod s d
  rw [h, Nat.add_zero] at h1
  generalize s / d = q at h1 ⊢
  subst h1
  rw [show d * q + d - 1 = d * q + (d - 1) by omega, Nat.mul_add_div hd, Nat.div_eq_of_lt (by omega), Nat.add_zero]
/-- What the law wants of the place s: it is the step of the thinned table. -/
theorem thin_want (n s q d : Nat) (hn : s ≤ n) (h0 : 0 < n) (hq : 0 < q) (hd : d = min q n) : (s + d - 1) / d = if 0 < s % q then s / q + 1 else s / q := by
  rcases Nat.lt_or_ge n q with h | h
  · obtain rfl : d = n := by omega
    rw [Nat.mod_eq_of_lt (by omega), Nat.div_eq_of_lt (show s < q by omega)]
    rcases Nat.eq_zero_or_pos s with rfl | hs
    · rw [if_neg (by omega), Nat.div_eq_of_lt (by omega)]
    · rw [if_pos hs]
      rw [show s + d - 1 = d * 1 + (s - 1) by omega, Nat.mul_add_div h0, Nat.div_eq_of_lt (by omega)]
  · obtain rfl : d = q := by omega
    split
    · rename_i hm; exact ceil_rem s d hq hm
    · rename_i hm; exact ceil_no s d hq (by omega)

set_option maxHeartbeats 2000000 in
theorem wFnSearchThinned (A0 : Option Addr) (n0 c0 : Nat) (l0 : List Bool) (a1 : Int) (w : World) (r0 : Rd w w.heap.size 1 A0 n0 (cB l0)) (le0 : n0 ≤ c0) (b0 : c0 * 1 ≤ 140737488351232) (i1 : InI a1) :
    Calls Try.prog 8 #[.slice A0 n0 c0, .int .i64 a1] w fun e w' => e = .returned (.bool true) ∧ Below w.heap.size w w' := by
  have hn : n0 ≤ 140737488351232 := by omega
  have hl := rdB_len r0
  have HL := Lib.hid hl
  clear hl
  have hi1 := i1.1
  have hi2 := i1.2
  clear i1
  by_cases hst : a1 < 1
  · go_enter Try.func8, Try.ntmps8
    go_wp2
    go_ret
    exact ⟨rfl, Below.refl _ _⟩
  · obtain ⟨q, rfl⟩ := Int.eq_ofNat_of_zero_le (show 0 ≤ a1 by omega)
    have hq : 1 ≤ q := by omega
    have hd0 : decide ((q : Int) < 1) = false := by simp; omega
    have hq2 : (q : Int) ≤ 9223372036854775807 := hi2
    clear hst hi1 hi2
    go_enter Try.func8, Try.ntmps8
    go_wp2_with fail
    refine (Rising_any l0 A0 n0 c0 n0 w r0 (by omega) (by omega)).mono ?_
    rintro e w' ⟨b, hb, rfl, rfl⟩
    have HB := Lib.hid hb
    clear hb
    cases b
    · go_wp2
      go_ret
      exact ⟨rfl, Below.refl _ _⟩
    · obtain ⟨s, hs⟩ := (HB.out.1 (by first | rfl | trivial)).mono.step
      have HS := Lib.hid hs
      have hsn := hs.1
      clear hs HB
      obtain ⟨d, hd⟩ : ∃ d, d = min q n0 := ⟨_, rfl⟩
      have hd1 : d ≤ n0 := by omega
      have hdq : min (q : Int) (n0 : Int) = (d : Int) := by omega
      have HDD := Lib.hid hd
      clear hd
      go_wp2_with fail
      go_loopw [6, 7] (fun v i wr => ∃ (k j : Nat) (A' : Option Addr) (c' : Nat), k ≤ j ∧ j ≤ n0 + d ∧ i = .int .i64 j ∧ v = .slice A' k c' ∧ wr.ownsRow w.heap.size 4 1 (.slice A' k c') k (cB (thin l0 d k)) ∧ Below w.heap.size w wr ∧ Hid (j = k * d) ∧ Hid (k = 0 ∨ (k - 1) * d < n0))
        (fun _ i _ => n0 - (intOf i).toNat)
      case atStart => exact ⟨0, 0, none, 0, Nat.le_refl _, Nat.zero_le _, rfl, rfl, by simpa [cB, thin] using own_nil _ _ _ _, Below.refl _ _, by simp [Hid], Or.inl rfl⟩
      case round =>
        obtain ⟨k, j, A', c', hkj, hj, rfl, rfl, hown, hbel, HJ, HK⟩ := hrel
        by_cases hlt : j < n0
        · obtain ⟨b, off, rfl, hb, hc⟩ := rdB_at (k := j) (r0.below hbel) hlt
          have hd1 : 1 ≤ d := by have := HDD.out; omega
          have hmk : l0[j]?.getD false = mk l0 (k * d) := by rw [← HJ.out]; simp [mk, show j < l0.length by rw [HL.out]; exact hlt]
          have hsz := hbel.size
          rw [hmk] at hc
          clear hmk
          go_wp2_with (at_builtin; refine wpList_app eB rfl _ _ rfl w.heap.size wr A' k c' _ rfl hown #[.bool (mk l0 (k * d))] rfl rfl (one_bool _) (by omega) (by unfold maxLen; omega) hsz ?_; rintro g cap w2 ⟨o2, b2, g2, y2, z2⟩)
          have hif : (if n0 < q then (n0 : Int) else (q : Int)) = (d : Int) := by have := HDD.out; split <;> omega
          rw [hif]
          rw [thin_snoc] at o2
          have b3 := hbel.trans b2
          have HJ2 : Hid (j + d = (k + 1) * d) := by have := HJ.out; rw [Hid, Nat.add_mul, Nat.one_mul, this]
          have HK2 : Hid (k + 1 = 0 ∨ (k + 1 - 1) * d < n0) := by right; rw [Nat.add_sub_cancel, ← HJ.out]; exact hlt
          go_roundw
          case rel => exact ⟨k + 1, j + d, some ⟨g, 0, none⟩, cap, by omega, by omega, by go_num, rfl, o2, b3, HJ2, HK2⟩
          case measure => simp [intOf]; omega
        · have r2 := Rd.of_own hown
          have hkj2 : k ≤ 9223372036854775807 := by omega
          have hst : Hid (∀ r, Cut (mk (thin l0 d k)) k r → r = if 0 < s % q then s / q + 1 else s / q) := fun r hc => by
            rcases Nat.eq_zero_or_pos n0 with h0 | h0
            · have hk0 : k = 0 := by
                rcases HK.out with h | h
                · exact h
                · omega
              have : r = 0 := by have := hc.1; omega
              have : s = 0 := by omega
              subst this
              rw [if_neg (by simp)]
              simp; omega
            · have hdd : 0 < d := by have := HDD.out; omega
              have := (thin_step l0 n0 d k s hdd (by rw [← HJ.out]; omega) HK.out HS.out).cut hc
              rw [this]
              exact thin_want n0 s q d hsn h0 hq HDD.out
          clear hown HJ HK
          have hdj : decide ((j : Int) < (n0 : Int)) = false := by simp; omega
          go_wp2_with fail
          refine (Search_any l0 A0 n0 c0 n0 wr (r0.on hbel) (by omega)).mono ?_
          rintro e w3 ⟨t, ht, rfl, hb3⟩
          obtain rfl := HS.out.cut ht
          clear ht
          obtain ⟨z, hz⟩ : ∃ z, z = t / q := ⟨_, rfl⟩
          have hzt : z ≤ t := by rw [hz]; exact Nat.div_le_self _ _
          have HW1 := Lib.hid (wrap_div t q z (by omega) hz)
          have HW2 := Lib.hid (wrap_succ z (by omega))
          rw [← hz] at hst
          clear hz
          by_cases hm : 0 < t % q
          · have hm' : (0 : Int) < (t : Int) % (q : Int) := by omega
            rw [if_pos hm] at hst
            have HST := hst
            clear hst
            go_wp2_with fail
            rw [HW1.out, HW2.out]
            refine (First_any l0 A0 n0 c0 n0 w3 ((r0.on hbel).on hb3) (by omega) (by omega)).mono ?_
            rintro e w4 ⟨u, hu, rfl, rfl⟩
            obtain rfl := HS.out.first hu
            clear hu
            go_wp2_with fail
            refine (Search_any _ A' k c' k w3 (r2.on hb3) hkj2).mono ?_
            rintro e w5 ⟨r, hc, rfl, hb5⟩
            obtain rfl := HST.out r hc
            clear hc
            go_wp2
            go_ret
            exact ⟨by simp, below_step (below_step hbel hb3) hb5⟩
          · have hm' : ¬ (0 : Int) < (t : Int) % (q : Int) := by omega
            rw [if_neg hm] at hst
            have HST := hst
            clear hst
            go_wp2_with fail
            rw [HW1.out]
            refine (First_any l0 A0 n0 c0 n0 w3 ((r0.on hbel).on hb3) (by omega) (by omega)).mono ?_
            rintro e w4 ⟨u, hu, rfl, rfl⟩
            obtain rfl := HS.out.first hu
            clear hu
            go_wp2_with fail
            refine (Search_any _ A' k c' k w3 (r2.on hb3) hkj2).mono ?_
            rintro e w5 ⟨r, hc, rfl, hb5⟩
            obtain rfl := HST.out r hc
            clear hc
            go_wp2
            go_ret
            exact ⟨by simp, below_step (below_step hbel hb3) hb5⟩
end Go.Proofs.Ytdjlcpfjemmlgaa

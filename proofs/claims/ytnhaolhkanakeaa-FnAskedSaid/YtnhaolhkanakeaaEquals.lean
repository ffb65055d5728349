/- The contract of spec.Equal: how many items have the same rank. -/
import Derived.Test.YtnhaolhkanakeaaCountsPlain
import Derived.Test.YtnhaolhkanakeaaPlain
import Derived.Test.YtnhaolhkanakeaaTheirs
namespace Go.Proofs.Ytnhaolhkanakeaa
open Go.RowKit

set_option maxHeartbeats 2000000 in
theorem Equal_any (l : List (Int × Int)) (AL : Option Addr) (nL cL : Nat) (key : Int) (R : List Int) (A : Option Addr) (m c : Nat) (w : World)
    (hL : Rd w w.heap.size 2 AL nL (cI l)) (hr : Rd w w.heap.size 1 A m (cZ R)) (hnL : nL * 16 ≤ 140737488351232) :
    Calls Try.prog 16 #[.slice AL nL cL, .int .i64 key, .slice A m c] w fun e w' => e = .returned (.int .i64 (eqs R l key)) ∧ Below w.heap.size w w' := by
  have HL := Lib.hid (rdI_len hL)
  have HLs : Hid (∀ k, eqs R (l.take k) key ≤ k) := fun k => Nat.le_trans (eqs_le _ _ _) (by simp; omega)
  go_enter Try.func16, Try.ntmps16
  go_wp2
  go_loopw [7, 12] (fun q i wr => ∃ k : Nat, k ≤ nL ∧ i = .int .i64 k ∧ q = .int .i64 (eqs R (l.take k) key) ∧ Below w.heap.size w wr) (fun _ i _ => nL - (intOf i).toNat)
  case atStart => exact ⟨0, Nat.zero_le _, rfl, by simp [eqs], Below.refl _ _⟩
  case round =>
    obtain ⟨k, hk, rfl, rfl, hbel⟩ := hrel
    have hq := HLs.out k
    by_cases hlt : k < nL
    · have hs : Hid (eqs R (l.take (k + 1)) key = eqs R (l.take k) key + if rk R (it l k).1 = rk R key then 1 else 0) := by
        unfold Hid eqs
        rw [it_snoc l k (by rw [HL.out]; exact hlt), List.countP_append, List.countP_singleton]
        simp
      obtain ⟨b, off, rfl, hb, hc1, hc2⟩ := rdI_at (k := k) (hL.on hbel) hlt
      generalize it l k = x at hc1 hc2 hs
      obtain ⟨xk, xt⟩ := x
      have hbx := hbel.alloc hbel.size (.cells #[.int .i64 xk, .int .i64 xt] 67)
      generalize eqs R (l.take k) key = q at hs hq ⊢
      by_cases hv : rk R xk = rk R key
      · have hv' : (rk R xk == rk R key) = true := by simpa using hv
        have HS2 : Hid (eqs R (l.take (k + 1)) key = q + 1) := by unfold Hid; rw [hs.out, if_pos hv]
        clear hv
        go_wp2_with (first | (go_at_call 34; refine (Rank_any R A m c _ _ (hr.on hbx)).mono ?_; rintro e w' ⟨rfl, rfl⟩))
        go_roundw
        case rel => exact ⟨k + 1, by omega, by go_num, by rw [HS2.out]; go_num, hbx⟩
        case measure => simp [intOf]; omega
      · have hv' : (rk R xk == rk R key) = false := by simpa using hv
        have HS2 : Hid (eqs R (l.take (k + 1)) key = q) := by unfold Hid; rw [hs.out, if_neg hv, Nat.add_zero]
        clear hv
        go_wp2_with (first | (go_at_call 34; refine (Rank_any R A m c _ _ (hr.on hbx)).mono ?_; rintro e w' ⟨rfl, rfl⟩))
        go_roundw
        case rel => exact ⟨k + 1, by omega, by go_num, by rw [HS2.out], hbx⟩
        case measure => simp [intOf]; omega
    · obtain rfl : k = nL := by omega
      rw [List.take_of_length_le (by rw [HL.out]; exact Nat.le_refl _)]
      clear hq
      go_wp2
      go_ret
      exact ⟨rfl, hbel⟩
end Go.Proofs.Ytnhaolhkanakeaa

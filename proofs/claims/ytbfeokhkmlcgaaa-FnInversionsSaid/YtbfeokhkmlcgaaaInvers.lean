/- Pairs in the wrong order: plain mathematics, and the contract of spec.Inversions. -/
import Derived.Test.YtbfeokhkmlcgaaaCountsPlain
import Derived.Test.YtbfeokhkmlcgaaaTheirs
import Derived.Test.YtbfeokhkmlcgaaaPlain
import Derived.Deep.RegionHeld3
namespace Go.Proofs.Ytbfeokhkmlcgaaa
open Go.RowKit
attribute [local go_sem ↓] Go.wp_at_zero Go.wp_at_succ

/-- How many items have a greater rank than a key. -/
def more (R : List Int) (l : List (Int × Int)) (k : Int) : Nat := l.countP fun y => decide (rk R k < rk R y.1)
theorem more_le (R : List Int) (l : List (Int × Int)) (k : Int) : more R l k ≤ l.length := List.countP_le_length
theorem more_stab (R : List Int) (l : List (Int × Int)) (r : Int × Int → Int) (k : Int) : more R (stab r l) k = more R l k := (stab_perm r l).countP_eq _
theorem less_eqs_more (R : List Int) (l : List (Int × Int)) (k : Int) : less R l k + eqs R l k + more R l k = l.length := by
  rw [less_eqs]
  unfold more
  induction l with
  | nil => rfl
  | cons y l ih =>
    simp only [List.countP_cons, List.length_cons]
    have : (if decide (rk R y.1 ≤ rk R k) = true then 1 else 0) + (if decide (rk R k < rk R y.1) = true then 1 else 0) = (1 : Nat) := by
      simp only [decide_eq_true_eq]
      split <;> split <;> omega
    omega
/-- The pairs in the wrong order of which the later one is among the first k. -/
def invTo (R : List Int) (l : List (Int × Int)) : Nat → Nat
  | 0 => 0
  | k + 1 => invTo R l k + more R (l.take k) (it l k).1
theorem wrap_add (a b : Int) : wrap64 (wrap64 a + b) = wrap64 (a + b) := by unfold wrap64; omega
theorem more_snoc (R : List Int) (l : List (Int × Int)) (k : Nat) (x : Int) (h : k < l.length) : more R (l.take (k + 1)) x = more R (l.take k) x + if rk R x < rk R (it l k).1 then 1 else 0 := by
  unfold more
  rw [it_snoc l k h, List.countP_append, List.countP_singleton]
  simp only [decide_eq_true_eq]

set_option maxHeartbeats 2000000 in
theorem Inversions_any (l : List (Int × Int)) (AL : Option Addr) (nL cL : Nat) (R : List Int) (A : Option Addr) (m c : Nat) (w : World)
    (hL : Rd w w.heap.size 2 AL nL (cI l)) (hr : Rd w w.heap.size 1 A m (cZ R)) (hc : nL ≤ cL) (hnL : nL * 16 ≤ 140737488351232) :
    Calls Try.prog 28 #[.slice AL nL cL, .slice A m c] w fun e w' => e = .returned (.int .i64 (wrap64 (invTo R l nL))) ∧ Below w.heap.size w w' := by
  have HL := Lib.hid (rdI_len hL)
  go_enter Try.func28, Try.ntmps28
  go_wp2
  go_loopw [5, 10] (fun q s wr => ∃ i : Nat, i ≤ nL ∧ s = .int .i64 i ∧ q = .int .i64 (wrap64 (invTo R l i)) ∧ Below w.heap.size w wr) (fun _ s _ => nL - (intOf s).toNat)
  case atStart => exact ⟨0, Nat.zero_le _, rfl, by simp [invTo, wrap64], Below.refl _ _⟩
  case round =>
    obtain ⟨i, hi, rfl, rfl, hbel⟩ := hrel
    by_cases hlt : i < nL
    · have k0 : (0 : Int) ≤ (i : Int) := Int.natCast_nonneg _
      have k1 : (i : Int) ≤ (cL : Int) := by omega
      go_wp2_with fail
      obtain ⟨wo, rfl⟩ : ∃ wo : World, wo = wr := ⟨_, rfl⟩
      go_loopw [5, 17] (fun q s wr => ∃ k : Nat, k ≤ i ∧ s = .int .i64 k ∧ q = .int .i64 (wrap64 (invTo R l i + more R (l.take k) (it l i).1)) ∧ Below wo.heap.size wo wr) (fun _ s _ => i - (intOf s).toNat)
      case atStart => exact ⟨0, Nat.zero_le _, rfl, by simp [more], Below.refl _ _⟩
      case round =>
        obtain ⟨k, hk, rfl, rfl, hbel2⟩ := hrel
        by_cases hlk : k < i
        · have belw := below_step hbel hbel2
          obtain ⟨b, off, rfl, hb, h1, _⟩ := rdI_at (k := i) (hL.on belw) hlt
          obtain ⟨b', off', hA', _, h2, _⟩ := rdI_at (k := k) (hL.on belw) (show k < nL by omega)
          simp only [Option.some.injEq, Addr.mk.injEq, and_true] at hA'
          obtain ⟨rfl, rfl⟩ := hA'
          have HM := Lib.hid (more_snoc R l k (it l i).1 (by rw [HL.out]; omega))
          have j0 : (0 : Int) ≤ (k : Int) := Int.natCast_nonneg _
          have j1 : (k : Int) < (nL : Int) := by omega
          have j2 : (i : Int) < (nL : Int) := by omega
          generalize (it l i).1 = x at h1 HM ⊢
          generalize (it l k).1 = y at h2 HM
          have rq := Lib.hid (hr.on belw)
          go_wp2_with fail
          go_region_held3 (fun w' => w'.cell? ⟨b, off + i * 2, none⟩ = some (.int .i64 x) ∧ w'.cell? ⟨b, off + k * 2, none⟩ = some (.int .i64 y) ∧ Below wr.heap.size wr w')
            (first | (exact ⟨h1, h2, (Below.refl _ _).drew⟩) | (go_split_ands; exact ⟨by assumption, by assumption, by assumption⟩))
            (first | (go_at_call 37; go_split_ands; refine (Rank_any R A m c _ _ (rq.out.on (by assumption))).mono ?_; rintro e w' ⟨rfl, rfl⟩))
          by_cases hv : rk R x < rk R y
          · have HM2 : Hid (more R (l.take (k + 1)) x = more R (l.take k) x + 1) := by unfold Hid; rw [HM.out, if_pos hv]
            go_wp2
            go_roundw
            case rel => exact ⟨k + 1, by omega, by go_num, by rw [HM2.out, wrap_add]; first | rfl | (congr 2; push_cast; omega), hbel2.drew⟩
            case measure => simp [intOf]; omega
          · have HM2 : Hid (more R (l.take (k + 1)) x = more R (l.take k) x) := by unfold Hid; rw [HM.out, if_neg hv, Nat.add_zero]
            have hv' : decide (rk R x < rk R y) = false := by simpa using hv
            go_wp2
            go_roundw
            case rel => exact ⟨k + 1, by omega, by go_num, by rw [HM2.out], hbel2.drew⟩
            case measure => simp [intOf]; omega
        · obtain rfl : k = i := by omega
          have HN : Hid (invTo R l (k + 1) = invTo R l k + more R (l.take k) (it l k).1) := rfl
          go_wp2
          go_roundw
          case rel => exact ⟨k + 1, by omega, by go_num, by rw [HN.out]; push_cast; rfl, below_step hbel hbel2⟩
          case measure => simp [intOf]; omega
    · obtain rfl : i = nL := by omega
      go_wp2
      go_ret
      exact ⟨rfl, hbel⟩
end Go.Proofs.Ytbfeokhkmlcgaaa

/- FnOppositeAfter returns true: for every list and order. -/
import Derived.Test.YtdojnocmapkodaaStableSteps
import Derived.Test.YtdojnocmapkodaaOpposite
import Derived.Test.YtdojnocmapkodaaPlaces
import Derived.Test.YtdojnocmapkodaaSame
import Derived.Test.YtdojnocmapkodaaOpen
import Derived.Deep.RegionHeld3
namespace Go.Proofs.Ytdojnocmapkodaa
open Go.RowKit
attribute [local go_sem ↓] Go.wp_at_zero Go.wp_at_succ
theorem opp_after (R : List Int) (l : List (Int × Int)) (h : ∀ y ∈ l, 0 ≤ y.1 ∧ y.1 < R.length) : steps [R, opp R] l = stab (rJ (opp R)) l := by
  show stab (rJ (opp R)) (stab (rJ R) l) = _
  refine stab_after (rJ R) (rJ (opp R)) l fun a ha b hb e => ?_
  have h1 := h a ha
  have h2 := h b hb
  unfold rJ at e ⊢
  rw [opp_rk R _ h1.1 h1.2, opp_rk R _ h2.1 h2.2] at e
  unfold inv1 at e
  omega
theorem rds_two {w : World} {A B : Option Addr} {n m c d : Nat} {R S : List Int} (e : TypeId) (hA : Rd w w.heap.size 1 A n (cZ R)) (hB : Rd w w.heap.size 1 B m (cZ S)) :
    RdS (w.alloc (.cells #[.slice A n c, .slice B m d] e)) (w.alloc (.cells #[.slice A n c, .slice B m d] e)).heap.size (some ⟨w.heap.size, 0, none⟩) 2 [⟨A, n, c, R⟩, ⟨B, m, d, S⟩] := by
  refine ⟨⟨rfl, fun _ => ⟨w.heap.size, 0, rfl, by simp, fun j u hu => ?_⟩⟩, fun t ht => ?_⟩
  · match j, hu with
    | 0, hu => simp [cT] at hu; subst hu; simp
    | 1, hu => simp [cT] at hu; subst hu; simp
    | j + 2, hu => simp at hu
  · simp at ht
    rcases ht with rfl | rfl
    · exact hA.on (below_alloc1 w _)
    · exact hB.on (below_alloc1 w _)

set_option linter.unusedSimpArgs false in
set_option maxHeartbeats 4000000 in
theorem wFnOppositeAfter (A0 : Option Addr) (n0 c0 : Nat) (l0 : List (Int × Int)) (A2 : Option Addr) (n2 c2 : Nat) (R : List Int) (w : World)
    (r0 : Rd w w.heap.size 2 A0 n0 (cI l0)) (_z0 : ∀ y ∈ l0, InI y.1 ∧ InI y.2) (le0 : n0 ≤ c0) (b0 : c0 * 16 ≤ 140737488351232)
    (r2 : Rd w w.heap.size 1 A2 n2 (cZ R)) (z2 : ∀ y ∈ R, InI y) (le2 : n2 ≤ c2) (b2 : c2 * 8 ≤ 140737488351232) :
    Calls Try.prog 6 #[.slice A0 n0 c0, .agg #[.slice A2 n2 c2]] w fun e w' => e = .returned (.bool true) ∧ Below w.heap.size w w' := by
  clear _z0
  have Z2 := Lib.hid z2
  clear z2
  have hn : n0 * 16 ≤ 140737488351232 := by omega
  have hn2 : n2 * 8 ≤ 140737488351232 := by omega
  have HL := Lib.hid (rdI_len r0)
  have HLR := Lib.hid (rdZ_len r2)
  have hb0 := below_alloc1 w (.cells #[.slice A2 n2 c2] 25)
  have d2 : (w.alloc (.cells #[.slice A2 n2 c2] 25)).cell? ⟨w.heap.size, 0, none⟩ = some (.slice A2 n2 c2) := by simp [go_sem]
  have ra := Lib.hid (r0.on hb0)
  have rr := Lib.hid (r2.on hb0)
  clear r0 r2 le0 b0 le2 b2
  go_enter Try.func6, Try.ntmps6
  go_wp2
  generalize w.alloc (.cells #[.slice A2 n2 c2] 25) = W at *
  go_loopw [10] (fun s wr => ∃ i : Nat, i ≤ n0 ∧ s = .int .i64 i ∧ Hid (∀ j, j < i → 0 ≤ (it l0 j).1 ∧ (it l0 j).1 < n2) ∧ Below W.heap.size W wr) (fun s _ => n0 - (intOf s).toNat)
  case atStart => exact ⟨0, Nat.zero_le _, rfl, fun j hj => absurd hj (by omega), Below.refl _ _⟩
  case round =>
    obtain ⟨i, hi, rfl, I, hbel⟩ := hrel
    by_cases hlt : i < n0
    · obtain ⟨b, off, rfl, _, hc1, hc2⟩ := rdI_at (k := i) (ra.out.on hbel) hlt
      obtain ⟨⟨xk, xt⟩, hx⟩ : ∃ x, x = it l0 i := ⟨_, rfl⟩
      rw [← hx] at hc1 hc2
      have HX := Lib.hid hx
      clear hx
      have hbx := hbel.alloc hbel.size (.cells #[.int .i64 xk, .int .i64 xt] 27)
      have t2 := cell_on hbx d2
      have bW := below_step hb0 hbx
      by_cases h1 : xk < 0
      · go_wp2
        go_ret
        exact ⟨rfl, bW⟩
      have h1' : decide (xk < 0) = false := by simpa using h1
      by_cases h2 : xk < n2
      · have h2' : decide ((n2 : Int) ≤ xk) = false := by simp; omega
        have I2 : Hid (∀ j, j < i + 1 → 0 ≤ (it l0 j).1 ∧ (it l0 j).1 < n2) := fun j hj => by
          rcases Nat.lt_succ_iff_lt_or_eq.1 hj with h | rfl
          · exact I.out j h
          · rw [← HX.out]; exact ⟨by show 0 ≤ xk; omega, h2⟩
        go_wp2
        go_roundw
        case rel => exact ⟨i + 1, by omega, by go_num, I2, hbx⟩
        case measure => simp [intOf]; omega
      · have h2' : decide ((n2 : Int) ≤ xk) = true := by simp; omega
        go_wp2
        go_ret
        exact ⟨rfl, bW⟩
    · obtain rfl : i = n0 := by omega
      have HS : Hid (steps [R, opp R] l0 = stab (rJ (opp R)) l0) := opp_after R l0 fun y hy => by
        obtain ⟨j, hj, rfl⟩ := List.mem_iff_getElem.1 hy
        have := I.out j (by rw [HL.out] at hj; exact hj)
        rw [it_lt hj] at this
        rw [HLR.out]
        exact this
      clear I
      have e2 := cell_on hbel d2
      have rr1 := Lib.hid (rr.out.on hbel)
      have ra1 := Lib.hid (ra.out.on hbel)
      have bW := below_step hb0 hbel
      clear hbel
      go_wp2_with fail
      go_region_held3 (fun w' => w'.cell? ⟨w.heap.size, 0, none⟩ = some (.slice A2 n2 c2) ∧ Below wr.heap.size wr w')
        (first | (exact ⟨e2, (Below.refl _ _).drew⟩) | (go_split_ands; exact ⟨nx_cell hbc (by assumption), nx_step (by assumption) hbc⟩) | (go_split_ands; exact ⟨nx_cell (nx (below_alloc1 _ _)) (by assumption), nx_step (by assumption) (nx (below_alloc1 _ _))⟩))
        (first
          | (go_at_call 23; go_split_ands; refine (opposite_any R A2 n2 c2 _ (rr1.out.on (by assumption)) Z2.out hn2).mono ?_; rintro e w1 ⟨B, cb, rfl, o1, hbc'⟩; have r1 := Lib.hid (Rd.of_own o1); have rr3 := Lib.hid (Rd.on (Rd.on rr1.out (by assumption)) hbc'); clear o1; have hbc := nx hbc'; clear hbc')
          | (go_at_call 17; go_split_ands; refine (StableSteps_any l0 A0 i c0 _ _ 2 2 _ (ra1.out.on (by assumption)) (rds_two 25 rr3.out r1.out) (by omega) (by omega)).mono ?_; rintro e w2 ⟨A5, c5, rfl, o5, hbc'⟩; have hbc := nx hbc'; clear hbc'))
      have b5 : Below wr.heap.size wr w2 := by go_split_ands; assumption
      have e5 : w2.cell? ⟨w.heap.size, 0, none⟩ = some (.slice A2 n2 c2) := by go_split_ands; assumption
      have HS' : Hid (steps (List.map Tab.r [⟨A2, n2, c2, R⟩, ⟨B, n2, cb, opp R⟩]) l0 = stab (rJ (opp R)) l0) := HS.out
      rw [HS'.out] at o5
      have r5 := Lib.hid (Rd.of_own o5)
      clear o5
      go_wp2_with (first
        | (go_at_call 23; refine (opposite_any R A2 n2 c2 _ (rr1.out.on b5) Z2.out hn2).mono ?_; rintro e w6 ⟨B6, c6, rfl, o6, hb6⟩; have r6 := Lib.hid (Rd.of_own o6); clear o6)
        | (go_at_call 13; refine (Stable_any (opp R) B6 n2 c6 l0 A0 i c0 _ r6.out (ra1.out.on (below_step b5 hb6)) (by omega)).mono ?_; rintro e w7 ⟨A7, c7, rfl, o7, hb7⟩; have r7 := Lib.hid (Rd.of_own o7); clear o7)
        | (go_at_call 18; refine (same_items (stab (rJ (opp R)) l0) A5 A7 i c5 c7 _ (r5.out.on (below_step hb6 hb7)) r7.out (by omega)).mono ?_; rintro e w8 ⟨rfl, hb8⟩))
      go_ret
      exact ⟨rfl, below_step bW (below_step (below_step (below_step b5 hb6) hb7) hb8)⟩
end Go.Proofs.Ytdojnocmapkodaa

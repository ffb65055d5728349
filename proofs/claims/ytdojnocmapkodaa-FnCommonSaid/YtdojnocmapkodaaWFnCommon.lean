/- FnCommon returns true: for every two lists and every order. -/
import Derived.Test.YtdojnocmapkodaaImplStable
import Derived.Test.YtdojnocmapkodaaLFind
import Derived.Test.YtdojnocmapkodaaCountsPlain
import Derived.Test.YtdojnocmapkodaaEquals
import Derived.Test.YtdojnocmapkodaaSteps
import Derived.Test.YtdojnocmapkodaaSame
import Derived.Test.YtdojnocmapkodaaOpen
import Derived.Deep.RegionHeld3
namespace Go.Proofs.Ytdojnocmapkodaa
open Go.RowKit
attribute [local go_sem ↓] Go.wp_at_zero Go.wp_at_succ
theorem eqs_permC (R : List Int) (l : List (Int × Int)) (k : Int) : eqs R (stab (rJ R) l) k = eqs R l k := (stab_perm (rJ R) l).countP_eq _

set_option linter.unusedSimpArgs false in
set_option maxHeartbeats 4000000 in
theorem wFnCommon (A0 : Option Addr) (n0 c0 : Nat) (l0 : List (Int × Int)) (A1 : Option Addr) (n1 c1 : Nat) (l1 : List (Int × Int)) (A2 : Option Addr) (n2 c2 : Nat) (R : List Int) (w : World)
    (r0 : Rd w w.heap.size 2 A0 n0 (cI l0)) (_z0 : ∀ y ∈ l0, InI y.1 ∧ InI y.2) (le0 : n0 ≤ c0) (b0 : c0 * 16 ≤ 140737488351232)
    (r1 : Rd w w.heap.size 2 A1 n1 (cI l1)) (_z1 : ∀ y ∈ l1, InI y.1 ∧ InI y.2) (le1 : n1 ≤ c1) (b1 : c1 * 16 ≤ 140737488351232)
    (r2 : Rd w w.heap.size 1 A2 n2 (cZ R)) (_z2 : ∀ y ∈ R, InI y) (_le2 : n2 ≤ c2) (_b2 : c2 * 8 ≤ 140737488351232) :
    Calls Try.prog 12 #[.slice A0 n0 c0, .slice A1 n1 c1, .agg #[.slice A2 n2 c2]] w fun e w' => e = .returned (.bool true) ∧ Below w.heap.size w w' := by
  clear _z0 _z1 _z2 _le2 _b2
  have hn : n0 * 16 ≤ 140737488351232 := by omega
  have hn1 : n1 * 16 ≤ 140737488351232 := by omega
  have HL1 := Lib.hid (rdI_len r1)
  have hb0 := below_alloc1 w (.cells #[.slice A2 n2 c2] 25)
  have d2 : (w.alloc (.cells #[.slice A2 n2 c2] 25)).cell? ⟨w.heap.size, 0, none⟩ = some (.slice A2 n2 c2) := by simp [go_sem]
  have ra := Lib.hid (r0.on hb0)
  have rb := Lib.hid (r1.on hb0)
  have rr := Lib.hid (r2.on hb0)
  clear r0 r1 r2 le0 b0 le1 b1
  go_enter Try.func12, Try.ntmps12
  go_wp2_with fail
  generalize w.alloc (.cells #[.slice A2 n2 c2] 25) = W0 at *
  refine (Stable_any R A2 n2 c2 l1 A1 n1 c1 W0 rr.out rb.out (by omega)).mono ?_
  rintro e W ⟨A, c, rfl, o1, bl1⟩
  have rs := Lib.hid (Rd.of_own o1)
  have d3 := cell_on bl1 d2
  have ra' := Lib.hid (ra.out.on bl1)
  have rb' := Lib.hid (rb.out.on bl1)
  have rr' := Lib.hid (rr.out.on bl1)
  have hbW := below_step hb0 bl1
  clear o1 ra rb rr d2 bl1 hb0
  have HSR : Hid (Srt (rI R) (stab (rJ R) l1)) := stab_srt (rJ R) l1
  have HSL : Hid ((stab (rJ R) l1).length = n1) := by unfold Hid; rw [stab_len]; exact HL1.out
  go_wp2_with fail
  go_loopw [17] (fun s wr => ∃ i : Nat, i ≤ n0 ∧ s = .int .i64 i ∧ Below W.heap.size W wr) (fun s _ => n0 - (intOf s).toNat)
  case atStart => exact ⟨0, Nat.zero_le _, rfl, Below.refl _ _⟩
  case round =>
    obtain ⟨i, hi, rfl, hbel⟩ := hrel
    by_cases hlt : i < n0
    · obtain ⟨b, off, rfl, _, hc1, hc2⟩ := rdI_at (k := i) (ra'.out.on hbel) hlt
      obtain ⟨x, hx⟩ : ∃ x, x = it l0 i := ⟨_, rfl⟩
      rw [← hx] at hc1 hc2
      clear hx
      have hbx := hbel.alloc hbel.size (.cells #[.int .i64 x.1, .int .i64 x.2] 27)
      have t2 := cell_on hbx d3
      have y0 : (wr.alloc (.cells #[.int .i64 x.1, .int .i64 x.2] 27)).cell? ⟨wr.heap.size, 0, none⟩ = some (.int .i64 x.1) := by simp [go_sem]
      have y1 : (wr.alloc (.cells #[.int .i64 x.1, .int .i64 x.2] 27)).cell? ⟨wr.heap.size, 1, none⟩ = some (.int .i64 x.2) := by simp [go_sem]
      have rq := Lib.hid (rr'.out.on hbx)
      have rt := Lib.hid (rs.out.on hbx)
      have ru := Lib.hid (rb'.out.on hbx)
      have hfd := Lib.hid (item_found HSR.out x)
      have hst := Lib.hid (first_step HSR.out x)
      rw [HSL.out] at hfd hst
      go_wp2_with fail
      generalize wr.alloc (.cells #[.int .i64 x.1, .int .i64 x.2] 27) = W2 at hbx t2 y0 y1 rq rt ru ⊢
      refine (FindItem_any R A2 n2 c2 (stab (rJ R) l1) A n1 c x _ rq.out rt.out (by omega)).mono ?_
      rintro e w3 ⟨r, hcut, rfl, hb3⟩
      have hF : fnd (cItem R (stab (rJ R) l1) x) n1 r = decide (0 < eqs R l1 x.1) := by
        have hr := (hst.out.cut (hcut.congr fun i _ => item_np R (stab (rJ R) l1) x i))
        unfold fnd
        rw [decide_eq_decide, hr, ← eqs_permC]
        exact hfd.out
      rw [hF]
      clear hF hcut hfd hst
      obtain ⟨q, hq⟩ : ∃ q, q = eqs R l1 x.1 := ⟨_, rfl⟩
      rw [← hq]
      have HQ := Lib.hid hq.symm
      clear hq
      have z2 := cell_on hb3 t2
      have z0 := cell_on hb3 y0
      have rq3 := Lib.hid (rq.out.on hb3)
      have ru3 := Lib.hid (ru.out.on hb3)
      have b3 := below_step hbx hb3
      clear t2 y0 y1 rq rt ru
      have hsp : q = 0 ∨ 0 < q := by omega
      rcases hsp with rfl | hq0
      all_goals
        go_wp2_with fail
        go_region_held3 (fun w' => w'.cell? ⟨w.heap.size, 0, none⟩ = some (.slice A2 n2 c2) ∧ w'.cell? ⟨wr.heap.size, 0, none⟩ = some (.int .i64 x.1) ∧ Below w3.heap.size w3 w')
          (first | (exact ⟨z2, z0, (Below.refl _ _).drew⟩) | (go_split_ands; exact ⟨nx_cell hbc (by assumption), nx_cell hbc (by assumption), nx_step (by assumption) hbc⟩))
          (first
            | (go_at_call 21; go_split_ands; refine (theirs_any l1 A1 n1 c1 _ (ru3.out.on (by assumption)) hn1).mono ?_; rintro e w4 ⟨A6, c6, rfl, o6, hbc'⟩; have rv := Lib.hid (Rd.of_own o6); clear o6; have hbc := nx hbc'; clear hbc')
            | (go_at_call 32; go_split_ands; refine (Equal_any l1 A6 n1 c6 x.1 R A2 n2 c2 _ (by refine Rd.on (rv.out) ?_; repeat (first | exact Below.refl _ _ | refine nx_step ?_ (by with_reducible assumption))) (rq3.out.on (by assumption)) hn1).mono ?_; rw [HQ.out]; rintro e w5 ⟨rfl, hbc'⟩; have hbc := nx hbc'; clear hbc'))
        have b5 : Below W.heap.size W w5 := below_step b3 (by go_split_ands; assumption)
        go_wp2
        go_roundw
        case rel => exact ⟨i + 1, by omega, by go_num, b5⟩
        case measure => simp [intOf]; omega
    · obtain rfl : i = n0 := by omega
      have e2 := cell_on hbel d3
      go_wp2_with (first
        | (go_at_call 33; refine (lstable_any l1 A1 n1 c1 R A2 n2 c2 _ (rb'.out.on hbel) (rr'.out.on hbel) hn1).mono ?_; rintro e w1 ⟨A3, c3, rfl, o3, hb3⟩; have ru := Lib.hid (Rd.of_own o3); clear o3)
        | (go_at_call 18; refine (same_items (stab (rJ R) l1) A A3 n1 c c3 _ (rs.out.on (below_step hbel hb3)) ru.out (by omega)).mono ?_; rintro e w4 ⟨rfl, hb4⟩))
      go_ret
      exact ⟨rfl, below_step hbW (below_step (below_step hbel hb3) hb4)⟩
end Go.Proofs.Ytdojnocmapkodaa

/- FnFindItem returns true: for every list, item and order. -/
import Derived.Test.YtnhaolhkanakeaaLFind
import Derived.Test.YtnhaolhkanakeaaSteps
import Derived.Test.YtnhaolhkanakeaaCounts
import Derived.Test.YtnhaolhkanakeaaEquals
import Derived.Test.YtnhaolhkanakeaaOpen
namespace Go.Proofs.Ytnhaolhkanakeaa
open Go.RowKit
attribute [local go_sem ↓] Go.wp_at_zero Go.wp_at_succ

set_option maxHeartbeats 8000000 in
theorem wFnFindItem (A0 : Option Addr) (n0 c0 : Nat) (l0 : List (Int × Int)) (x1 : Int × Int) (A2 : Option Addr) (n2 c2 : Nat) (R : List Int) (w : World)
    (r0 : Rd w w.heap.size 2 A0 n0 (cI l0)) (_z0 : ∀ y ∈ l0, InI y.1 ∧ InI y.2) (le0 : n0 ≤ c0) (b0 : c0 * 16 ≤ 140737488351232) (_i1 : InI x1.1 ∧ InI x1.2)
    (r2 : Rd w w.heap.size 1 A2 n2 (cZ R)) (_z2 : ∀ y ∈ R, InI y) (_le2 : n2 ≤ c2) (_b2 : c2 * 8 ≤ 140737488351232) :
    Calls Try.prog 6 #[.slice A0 n0 c0, .agg #[.int .i64 x1.1, .int .i64 x1.2], .agg #[.slice A2 n2 c2]] w fun e w' => e = .returned (.bool true) ∧ Below w.heap.size w w' := by
  clear _z0 _i1 _z2 _le2 _b2
  have hn : n0 * 16 ≤ 140737488351232 := by omega
  have HL := Lib.hid (rdI_len r0)
  have hb0 := below_alloc2 w (.cells #[.int .i64 x1.1, .int .i64 x1.2] 24) (.cells #[.slice A2 n2 c2] 27)
  go_enter Try.func6, Try.ntmps6
  go_wp2_with fail
  refine (lstable_any l0 A0 n0 c0 R A2 n2 c2 _ (r0.on hb0) (r2.on hb0) hn).mono ?_
  rintro e W ⟨A, c, rfl, o1, b1⟩
  have rs := Lib.hid (Rd.of_own o1)
  have rr := Lib.hid ((r2.on hb0).on b1)
  have d0 : W.cell? ⟨w.heap.size, 0, none⟩ = some (.int .i64 x1.1) := cell_on b1 (by simp [go_sem])
  have d1 : W.cell? ⟨w.heap.size, 1, none⟩ = some (.int .i64 x1.2) := cell_on b1 (by simp [go_sem])
  have d2 : W.cell? ⟨w.heap.size + 1, 0, none⟩ = some (.slice A2 n2 c2) := cell_on b1 (by simp [go_sem])
  have bw := below_step hb0 b1
  clear o1 r0 r2 hb0 b1
  have hsl : Hid ((stab (rI R) l0).length = n0) := by unfold Hid; rw [stab_len]; exact HL.out
  have hst := Lib.hid (first_step (stab_srt (rI R) l0) x1)
  have hfd := Lib.hid (item_found (stab_srt (rI R) l0) x1)
  have hle : less R (stab (rI R) l0) x1.1 ≤ n0 := by have := less_le R (stab (rI R) l0) x1.1; rw [hsl.out] at this; exact this
  have hle2 : eqs R (stab (rI R) l0) x1.1 ≤ n0 := by have := eqs_le R (stab (rI R) l0) x1.1; rw [hsl.out] at this; exact this
  rw [show stab (fun x => rk R x.1) l0 = stab (rI R) l0 from rfl] at rs
  obtain ⟨m, hm⟩ : ∃ m, m = stab (rI R) l0 := ⟨_, rfl⟩
  rw [← hm] at rs hst hsl hle hle2 hfd
  clear hm
  go_wp2_with fail
  refine (FindItem_any R A2 n2 c2 m A n0 c x1 _ rr.out rs.out (by omega)).mono ?_
  rintro e w1 ⟨r, hcut, rfl, hb1⟩
  have hr : r = less R m x1.1 := by
    rw [hsl.out] at hst
    exact hst.out.cut (hcut.congr fun i _ => item_np R m x1 i)
  subst hr
  have hF : fnd (cItem R m x1) n0 (less R m x1.1) = decide (0 < eqs R m x1.1) := by
    unfold fnd
    rw [decide_eq_decide, ← hsl.out]
    exact hfd.out
  rw [hF]
  have d0' := cell_on hb1 d0
  have d1' := cell_on hb1 d1
  have d2' := cell_on hb1 d2
  have rr' := Lib.hid (rr.out.on hb1)
  have rs' := Lib.hid (rs.out.on hb1)
  have bw1 := below_step bw hb1
  clear hcut hF d0 d1 d2 rr rs hb1 bw hst hfd
  have hgt : (decide ((0 : Int) < (eqs R m x1.1 : Int))) = decide (0 < eqs R m x1.1) := by rw [decide_eq_decide]; omega
  have hgt' : (decide (0 < eqs R m x1.1) == decide (0 < eqs R m x1.1)) = true := by simp
  go_wp2_with fail
  go_region_held3 (fun w' => w'.cell? ⟨w.heap.size, 0, none⟩ = some (.int .i64 x1.1) ∧ w'.cell? ⟨w.heap.size, 1, none⟩ = some (.int .i64 x1.2) ∧ w'.cell? ⟨w.heap.size + 1, 0, none⟩ = some (.slice A2 n2 c2) ∧ Below w1.heap.size w1 w')
    (first | (exact ⟨d0', d1', d2', (Below.refl _ _).drew⟩) | (go_split_ands; exact ⟨nx_cell hbc (by assumption), nx_cell hbc (by assumption), nx_cell hbc (by assumption), nx_step (by assumption) hbc⟩))
    (first
      | (go_at_call 15; go_split_ands; refine (theirs_any m A n0 c _ (rs'.out.on (by assumption)) hn).mono ?_; rintro e w2 ⟨A3, c3, rfl, o3, hbc'⟩; have hbc := nx hbc'; have rt := Rd.of_own o3; clear o3 hbc')
      | (go_at_call 14; go_split_ands; refine (Less_any m _ n0 _ x1.1 R A2 n2 c2 _ (by refine Rd.on (by assumption) ?_; repeat (first | exact Below.refl _ _ | refine nx_step ?_ (by assumption))) (rr'.out.on (by assumption)) hn).mono ?_; rintro e w3 ⟨rfl, hbc'⟩; have hbc := nx hbc'; clear hbc')
      | (go_at_call 16; go_split_ands; refine (Equal_any m _ n0 _ x1.1 R A2 n2 c2 _ (by refine Rd.on (by assumption) ?_; repeat (first | exact Below.refl _ _ | refine nx_step ?_ (by assumption))) (rr'.out.on (by assumption)) hn).mono ?_; rintro e w3 ⟨rfl, hbc'⟩; have hbc := nx hbc'; clear hbc'))
  all_goals
    go_wp2
    go_ret
    exact ⟨by simp, below_step bw1 (by go_split_ands; assumption)⟩
end Go.Proofs.Ytnhaolhkanakeaa

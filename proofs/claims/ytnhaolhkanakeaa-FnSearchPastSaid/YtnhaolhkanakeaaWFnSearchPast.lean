/- FnSearchPast returns true: for every list, item and order. -/
import Derived.Test.YtnhaolhkanakeaaLPast
import Derived.Test.YtnhaolhkanakeaaSteps
import Derived.Test.YtnhaolhkanakeaaCounts
import Derived.Test.YtnhaolhkanakeaaEquals
import Derived.Test.YtnhaolhkanakeaaOpen
namespace Go.Proofs.Ytnhaolhkanakeaa
open Go.RowKit
attribute [local go_sem ↓] Go.wp_at_zero Go.wp_at_succ

set_option maxHeartbeats 8000000 in
theorem wFnSearchPast (A0 : Option Addr) (n0 c0 : Nat) (l0 : List (Int × Int)) (x1 : Int × Int) (A2 : Option Addr) (n2 c2 : Nat) (R : List Int) (w : World)
    (r0 : Rd w w.heap.size 2 A0 n0 (cI l0)) (_z0 : ∀ y ∈ l0, InI y.1 ∧ InI y.2) (le0 : n0 ≤ c0) (b0 : c0 * 16 ≤ 140737488351232) (_i1 : InI x1.1 ∧ InI x1.2)
    (r2 : Rd w w.heap.size 1 A2 n2 (cZ R)) (_z2 : ∀ y ∈ R, InI y) (_le2 : n2 ≤ c2) (_b2 : c2 * 8 ≤ 140737488351232) :
    Calls Try.prog 3 #[.slice A0 n0 c0, .agg #[.int .i64 x1.1, .int .i64 x1.2], .agg #[.slice A2 n2 c2]] w fun e w' => e = .returned (.bool true) ∧ Below w.heap.size w w' := by
  clear _z0 _i1 _z2 _le2 _b2
  have hn : n0 * 16 ≤ 140737488351232 := by omega
  have HL := Lib.hid (rdI_len r0)
  have hb0 := below_alloc2 w (.cells #[.int .i64 x1.1, .int .i64 x1.2] 24) (.cells #[.slice A2 n2 c2] 27)
  go_enter Try.func3, Try.ntmps3
  go_wp2_with fail
  refine (lstable_any l0 A0 n0 c0 R A2 n2 c2 _ (r0.on hb0) (r2.on hb0) hn).mono ?_
  rintro e W ⟨A, c, rfl, o1, b1⟩
  have rs := Lib.hid (Rd.of_own o1)
  have rr := Lib.hid ((r2.on hb0).on b1)
  have d0 : W.cell? ⟨w.heap.size, 0, none⟩ = some (.int .i64 x1.1) := cell_on b1 (by simp [go_sem])
  have d1 : W.cell? ⟨w.heap.size, 1, none⟩ = some (.int .i64 x1.2) := cell_on b1 (by simp [go_sem])
  have d2 : W.cell? ⟨w.heap.size + 1, 0, none⟩ = some (.slice A2 n2 c2) := cell_on b1 (by simp [go_sem])
  have bw := below_step hb0 b1
  clear o1 r0 r2 hb0 b1
  have hsl : Hid ((stab (rI R) l0).length = n0) := by unfold Hid; rw [stab_len]; exact HL.out
  have hst := Lib.hid (past_step (stab_srt (rI R) l0) x1)
  have hle : less R (stab (rI R) l0) x1.1 + eqs R (stab (rI R) l0) x1.1 ≤ n0 := by have := less_eqs_le R (stab (rI R) l0) x1.1; rw [hsl.out] at this; exact this
  rw [show stab (fun x => rk R x.1) l0 = stab (rI R) l0 from rfl] at rs
  obtain ⟨m, hm⟩ : ∃ m, m = stab (rI R) l0 := ⟨_, rfl⟩
  rw [← hm] at rs hst hsl hle
  clear hm
  have hadd : IntKind.i64.wrap ((less R m x1.1 : Int) + (eqs R m x1.1 : Int)) = (less R m x1.1 : Int) + (eqs R m x1.1 : Int) := IntWalk.i64_in _ (by omega)
  have heq : (((less R m x1.1 + eqs R m x1.1 : Nat) : Int) == (less R m x1.1 : Int) + (eqs R m x1.1 : Int)) = true := by simp
  go_wp2_with fail
  go_region_held3 (fun w' => w'.cell? ⟨w.heap.size, 0, none⟩ = some (.int .i64 x1.1) ∧ w'.cell? ⟨w.heap.size, 1, none⟩ = some (.int .i64 x1.2) ∧ w'.cell? ⟨w.heap.size + 1, 0, none⟩ = some (.slice A2 n2 c2) ∧ Below W.heap.size W w')
    (first | (exact ⟨d0, d1, d2, (Below.refl _ _).drew⟩) | (go_split_ands; exact ⟨nx_cell hbc (by assumption), nx_cell hbc (by assumption), nx_cell hbc (by assumption), nx_step (by assumption) hbc⟩))
    (first
      | (go_at_call 13; go_split_ands; refine (SearchPast_any R A2 n2 c2 m A n0 c x1 _ (rr.out.on (by assumption)) (rs.out.on (by assumption)) (by omega)).mono ?_; rintro e w1 ⟨r, hcut, rfl, hbc'⟩; have hbc := nx hbc'; clear hbc'; have hr : r = less R m x1.1 + eqs R m x1.1 := (by rw [hsl.out] at hst; exact hst.out.cut hcut); subst hr; clear hcut)
      | (go_at_call 15; go_split_ands; refine (theirs_any m A n0 c _ (rs.out.on (by assumption)) hn).mono ?_; rintro e w2 ⟨A3, c3, rfl, o3, hbc'⟩; have hbc := nx hbc'; have rt := Rd.of_own o3; clear o3 hbc')
      | (go_at_call 14; go_split_ands; refine (Less_any m _ n0 _ x1.1 R A2 n2 c2 _ (by refine Rd.on (by assumption) ?_; repeat (first | exact Below.refl _ _ | refine nx_step ?_ (by assumption))) (rr.out.on (by assumption)) hn).mono ?_; rintro e w3 ⟨rfl, hbc'⟩; have hbc := nx hbc'; clear hbc')
      | (go_at_call 16; go_split_ands; refine (Equal_any m _ n0 _ x1.1 R A2 n2 c2 _ (by refine Rd.on (by assumption) ?_; repeat (first | exact Below.refl _ _ | refine nx_step ?_ (by assumption))) (rr.out.on (by assumption)) hn).mono ?_; rintro e w3 ⟨rfl, hbc'⟩; have hbc := nx hbc'; clear hbc'))
  all_goals
    go_wp2
    go_ret
    exact ⟨by simp, below_step bw (by go_split_ands; assumption)⟩
end Go.Proofs.Ytnhaolhkanakeaa

/- FnStable returns true: impl.Stable has the reference's stable list. -/
import Derived.Test.YtbfeokhkmlcgaaaImplStable
import Derived.Test.YtbfeokhkmlcgaaaSteps
import Derived.Test.YtbfeokhkmlcgaaaSame
import Derived.Test.YtbfeokhkmlcgaaaOpen
namespace Go.Proofs.Ytbfeokhkmlcgaaa
open Go.RowKit
attribute [local go_sem ↓] Go.wp_at_zero Go.wp_at_succ

set_option maxHeartbeats 4000000 in
theorem wFnStable (A0 : Option Addr) (n0 c0 : Nat) (l0 : List (Int × Int)) (A2 : Option Addr) (n2 c2 : Nat) (R : List Int) (w : World)
    (r0 : Rd w w.heap.size 2 A0 n0 (cI l0)) (_z0 : ∀ y ∈ l0, InI y.1 ∧ InI y.2) (le0 : n0 ≤ c0) (b0 : c0 * 16 ≤ 140737488351232)
    (r2 : Rd w w.heap.size 1 A2 n2 (cZ R)) (_z2 : ∀ y ∈ R, InI y) (_le2 : n2 ≤ c2) (_b2 : c2 * 8 ≤ 140737488351232) :
    Calls Try.prog 9 #[.slice A0 n0 c0, .agg #[.slice A2 n2 c2]] w fun e w' => e = .returned (.bool true) ∧ Below w.heap.size w w' := by
  clear _z0 _z2 _le2 _b2
  have hn : n0 * 16 ≤ 140737488351232 := by omega
  have hb0 := below_alloc1 w (.cells #[.slice A2 n2 c2] 25)
  have d2 : (w.alloc (.cells #[.slice A2 n2 c2] 25)).cell? ⟨w.heap.size, 0, none⟩ = some (.slice A2 n2 c2) := by simp [go_sem]
  have ra := Lib.hid (r0.on hb0)
  have rr := Lib.hid (r2.on hb0)
  clear r0 r2 le0 b0
  go_enter Try.func9, Try.ntmps9
  go_wp2_with fail
  generalize w.alloc (.cells #[.slice A2 n2 c2] 25) = W at *
  go_region_held3 (fun w' => w'.cell? ⟨w.heap.size, 0, none⟩ = some (.slice A2 n2 c2) ∧ Below W.heap.size W w')
    (first | (exact ⟨d2, (Below.refl _ _).drew⟩) | (go_split_ands; exact ⟨nx_cell hbc (by assumption), nx_step (by assumption) hbc⟩))
    (first
      | (go_at_call 21; go_split_ands; refine (Stable_any R A2 n2 c2 l0 A0 n0 c0 _ (rr.out.on (by assumption)) (ra.out.on (by assumption)) (by omega)).mono ?_; rintro e w1 ⟨A3, c3, rfl, o3, hbc'⟩; have rt := Lib.hid (Rd.of_own o3); clear o3; have hbc := nx hbc'; clear hbc')
      | (go_at_call 26; go_split_ands; refine (lstable_any l0 A0 n0 c0 R A2 n2 c2 _ (ra.out.on (by assumption)) (rr.out.on (by assumption)) hn).mono ?_; rintro e w2 ⟨A4, c4, rfl, o4, hbc'⟩; have ru := Lib.hid (Rd.of_own o4); clear o4; have hbc := nx hbc'; clear hbc')
      | (go_at_call 20; go_split_ands; refine (same_items (stab (rJ R) l0) A3 A4 n0 c3 c4 _ (by refine Rd.on (rt.out) ?_; repeat (first | exact Below.refl _ _ | refine nx_step ?_ (by with_reducible assumption))) (by refine Rd.on (ru.out) ?_; repeat (first | exact Below.refl _ _ | refine nx_step ?_ (by with_reducible assumption))) (by omega)).mono ?_; rintro e w3 ⟨rfl, hbc'⟩; have hbc := nx hbc'; clear hbc'))
  all_goals
    go_wp2
    go_ret
    exact ⟨rfl, below_step hb0 (by go_split_ands; assumption)⟩
end Go.Proofs.Ytbfeokhkmlcgaaa

/- FnEqualRange returns true: for every list, item and order. -/
import Derived.Test.YtbfeokhkmlcgaaaImplStable
import Derived.Test.YtbfeokhkmlcgaaaInside
import Derived.Test.YtbfeokhkmlcgaaaLFirst
import Derived.Test.YtbfeokhkmlcgaaaLPast
import Derived.Test.YtbfeokhkmlcgaaaLFind
import Derived.Test.YtbfeokhkmlcgaaaLRank
import Derived.Test.YtbfeokhkmlcgaaaCountsPlain
import Derived.Test.YtbfeokhkmlcgaaaOpen
namespace Go.Proofs.Ytbfeokhkmlcgaaa
open Go.RowKit
attribute [local go_sem ↓] Go.wp_at_zero Go.wp_at_succ

set_option linter.unusedSimpArgs false in
set_option maxHeartbeats 3000000 in
theorem wFnEqualRange (A0 : Option Addr) (n0 c0 : Nat) (l0 : List (Int × Int)) (x1 : Int × Int) (A2 : Option Addr) (n2 c2 : Nat) (R : List Int) (w : World)
    (r0 : Rd w w.heap.size 2 A0 n0 (cI l0)) (_z0 : ∀ y ∈ l0, InI y.1 ∧ InI y.2) (le0 : n0 ≤ c0) (b0 : c0 * 16 ≤ 140737488351232) (_i1 : InI x1.1 ∧ InI x1.2)
    (r2 : Rd w w.heap.size 1 A2 n2 (cZ R)) (_z2 : ∀ y ∈ R, InI y) (_le2 : n2 ≤ c2) (_b2 : c2 * 8 ≤ 140737488351232) :
    Calls Try.prog 4 #[.slice A0 n0 c0, .agg #[.int .i64 x1.1, .int .i64 x1.2], .agg #[.slice A2 n2 c2]] w fun e w' => e = .returned (.bool true) ∧ Below w.heap.size w w' := by
  clear _z0 _i1 _z2 _le2 _b2
  have hn : n0 * 16 ≤ 140737488351232 := by omega
  have HL := Lib.hid (rdI_len r0)
  have hb0 := below_alloc2 w (.cells #[.int .i64 x1.1, .int .i64 x1.2] 28) (.cells #[.slice A2 n2 c2] 25)
  go_enter Try.func4, Try.ntmps4
  go_wp2_with fail
  refine (Stable_any R A2 n2 c2 l0 A0 n0 c0 _ (r2.on hb0) (r0.on hb0) (by omega)).mono ?_
  rintro e W ⟨A, c, rfl, o1, b1⟩
  have rs := Lib.hid (Rd.of_own o1)
  have rr := Lib.hid ((r2.on hb0).on b1)
  have d0 : W.cell? ⟨w.heap.size, 0, none⟩ = some (.int .i64 x1.1) := cell_on b1 (by simp [go_sem])
  have d1 : W.cell? ⟨w.heap.size, 1, none⟩ = some (.int .i64 x1.2) := cell_on b1 (by simp [go_sem])
  have d2 : W.cell? ⟨w.heap.size + 1, 0, none⟩ = some (.slice A2 n2 c2) := cell_on b1 (by simp [go_sem])
  have bw := below_step hb0 b1
  clear o1 r0 r2 hb0 b1 b0 le0
  obtain ⟨m, hm⟩ : ∃ m, m = stab (rJ R) l0 := ⟨_, rfl⟩
  rw [← hm] at rs
  have hsl : Hid (m.length = n0) := by unfold Hid; rw [hm, stab_len]; exact HL.out
  have hsr : Srt (rI R) m := by rw [hm]; exact stab_srt (rJ R) l0
  clear hm
  have hs1 := first_step hsr x1
  have hs2 := past_step hsr x1
  have hfd := Lib.hid (item_found hsr x1)
  clear hsr
  rw [hsl.out] at hs1 hs2 hfd
  obtain ⟨f, hf⟩ : ∃ f, f = less R m x1.1 := ⟨_, rfl⟩
  obtain ⟨q, hq⟩ : ∃ q, q = eqs R m x1.1 := ⟨_, rfl⟩
  rw [← hf] at hs1 hs2 hfd
  rw [← hq] at hs2 hfd
  clear hf hq
  have hfn : f ≤ n0 := hs1.1
  have hpn : f + q ≤ n0 := hs2.1
  have HS1 := Lib.hid hs1
  have HS2 := Lib.hid hs2
  clear hs1 hs2
  go_wp2_with fail
  go_region_held3 (fun w' => w'.cell? ⟨w.heap.size, 0, none⟩ = some (.int .i64 x1.1) ∧ w'.cell? ⟨w.heap.size, 1, none⟩ = some (.int .i64 x1.2) ∧ w'.cell? ⟨w.heap.size + 1, 0, none⟩ = some (.slice A2 n2 c2) ∧ Below W.heap.size W w')
    (first | (exact ⟨d0, d1, d2, (Below.refl _ _).drew⟩) | (go_split_ands; exact ⟨nx_cell hbc (by assumption), nx_cell hbc (by assumption), nx_cell hbc (by assumption), nx_step (by assumption) hbc⟩))
    (first
      | (go_at_call 22; go_split_ands; refine (SearchFirst_any R A2 n2 c2 m A n0 c x1 _ (rr.out.on (by assumption)) (rs.out.on (by assumption)) (by omega)).mono ?_; rintro e w1 ⟨r1, hcut, rfl, hbc'⟩; have hr1 : f = r1 := (HS1.out.cut hcut).symm; subst hr1; clear hcut; have hbc := nx hbc'; clear hbc')
      | (go_at_call 14; go_split_ands; refine (SearchPast_any R A2 n2 c2 m A n0 c x1 _ (rr.out.on (by assumption)) (rs.out.on (by assumption)) (by omega)).mono ?_; rintro e w2 ⟨r2, hcut, rfl, hbc'⟩; have hr2 : r2 = f + q := (HS2.out.cut hcut); subst hr2; clear hcut; have hbc := nx hbc'; clear hbc'))
  all_goals
    have hbW : Below W.heap.size W w2 := by go_split_ands; assumption
    have e0 : w2.cell? ⟨w.heap.size, 0, none⟩ = some (.int .i64 x1.1) := by go_split_ands; assumption
    have e1 : w2.cell? ⟨w.heap.size, 1, none⟩ = some (.int .i64 x1.2) := by go_split_ands; assumption
    have e2 : w2.cell? ⟨w.heap.size + 1, 0, none⟩ = some (.slice A2 n2 c2) := by go_split_ands; assumption
    clear d0 d1 d2
    rename_i hold
    go_wp2_with fail
    refine (FindItem_any R A2 n2 c2 m A n0 c x1 _ (rr.out.on hbW) (rs.out.on hbW) (by omega)).mono ?_
    rintro e w3 ⟨r, hcut, rfl, hb3⟩
    have hr : f = r := (HS1.out.cut (hcut.congr fun i _ => item_np R m x1 i)).symm
    subst hr
    have hF : fnd (cItem R m x1) n0 f = decide (0 < q) := by
      unfold fnd
      rw [decide_eq_decide]
      exact hfd.out
    rw [hF]
    have g0 := cell_on hb3 e0
    have g1 := cell_on hb3 e1
    have g2 := cell_on hb3 e2
    have rr' := Lib.hid ((rr.out.on hbW).on hb3)
    have rs' := Lib.hid ((rs.out.on hbW).on hb3)
    have bw3 := below_step (below_step bw hbW) hb3
    clear hcut hF e0 e1 e2 rr rs hb3 bw hfd hbW
    have hdq : decide ((f : Int) < (f : Int) + (q : Int)) = decide (0 < q) := by rw [decide_eq_decide]; omega
    have hdq' : (decide (0 < q) == decide (0 < q)) = true := by simp
    go_wp2_with (first | (go_at_call 15; refine (inside_yes _ _ _ (by omega) (by omega)).mono ?_; rintro e w4 ⟨rfl, rfl⟩) | fail)
    clear hold hdq hdq'
    go_loopw [71] (fun v wr => ∃ i : Nat, i ≤ n0 ∧ v = .int .i64 i ∧ Below w3.heap.size w3 wr) (fun v _ => n0 - (intOf v).toNat)
    case atStart => exact ⟨0, Nat.zero_le _, rfl, Below.refl _ _⟩
    case round =>
      obtain ⟨i, hi, rfl, hbel⟩ := hrel
      by_cases hlt : i < n0
      · obtain ⟨b, off, rfl, _, hc1, hc2⟩ := rdI_at (k := i) (rs'.out.on hbel) hlt
        have hk1 : f ≤ i ↔ ¬ rk R (it m i).1 < rk R x1.1 := by
          have := HS1.out.2 i hlt
          unfold pFirst at this
          rw [← decide_not, decide_eq_decide] at this
          exact this.symm
        have hk2 : f + q ≤ i ↔ rk R x1.1 < rk R (it m i).1 := by
          have := HS2.out.2 i hlt
          unfold pPast at this
          rw [decide_eq_decide] at this
          exact this.symm
        obtain ⟨⟨yk, yt⟩, hy⟩ : ∃ y, y = it m i := ⟨_, rfl⟩
        rw [← hy] at hc1 hc2 hk1 hk2
        clear hy
        have hbx := hbel.alloc hbel.size (.cells #[.int .i64 yk, .int .i64 yt] 28)
        have t0 := cell_on hbx g0
        have t1 := cell_on hbx g1
        have t2 := cell_on hbx g2
        have y0 : (wr.alloc (.cells #[.int .i64 yk, .int .i64 yt] 28)).cell? ⟨wr.heap.size, 0, none⟩ = some (.int .i64 yk) := by simp [go_sem]
        have y1 : (wr.alloc (.cells #[.int .i64 yk, .int .i64 yt] 28)).cell? ⟨wr.heap.size, 1, none⟩ = some (.int .i64 yt) := by simp [go_sem]
        have rq := Lib.hid (rr'.out.on hbx)
        have i0 : (0 : Int) ≤ (i : Int) := Int.natCast_nonneg _
        have i1 : (i : Int) < (n0 : Int) := by omega
        go_wp2_with fail
        generalize wr.alloc (.cells #[.int .i64 yk, .int .i64 yt] 28) = W2 at hbx t0 t1 t2 y0 y1 rq ⊢
        obtain ⟨xk, xt⟩ := x1
        dsimp only at hk1 hk2
        by_cases q1 : f ≤ i
        · have hg : decide ((f : Int) ≤ (i : Int)) = true := by rw [decide_eq_true_eq]; omega
          by_cases q2 : i < f + q
          · have hv : (rk R yk == rk R xk) = true := by rw [beq_iff_eq]; omega
            have hg' : decide ((i : Int) < (f : Int) + (q : Int)) = true := by rw [decide_eq_true_eq]; omega
            clear hk1 hk2
            refine wp_region_held_drew (S := (fun w' => w'.cell? ⟨w.heap.size, 0, none⟩ = some (.int .i64 xk) ∧ w'.cell? ⟨w.heap.size, 1, none⟩ = some (.int .i64 xt) ∧ w'.cell? ⟨w.heap.size + 1, 0, none⟩ = some (.slice A2 n2 c2) ∧ w'.cell? ⟨wr.heap.size, 0, none⟩ = some (.int .i64 yk) ∧ w'.cell? ⟨wr.heap.size, 1, none⟩ = some (.int .i64 yt) ∧ Below W2.heap.size W2 w')) (by kernel_rfl) ⟨t0, t1, t2, y0, y1, (Below.refl _ _).drew⟩ (fun hHeld => ?_)
            ((refine wpAnyH_take (i := 0) (v := ?_) rfl (by kernel_rfl) (by kernel_rfl) (by kernel_rfl) (fun _ _ _ h => h) (Or.inl ⟨by kernel_rfl, ?_⟩) (by assumption) ?_; rotate_left; (focus ((try simp only [List.getElem_toArray, List.getElem_cons_zero, List.getElem_cons_succ]); intro w hSw; (try dsimp only at hSw); go_simp; all_goals (with_reducible rfl))); (try simp only [List.getElem_toArray, List.getElem_cons_zero, List.getElem_cons_succ, Act.put, List.setIfInBounds_toArray, List.set_cons_zero, List.set_cons_succ])); (refine wpAnyH_take (i := 1) (v := ?_) rfl (by kernel_rfl) (by kernel_rfl) (by kernel_rfl) (fun _ _ _ h => h) (Or.inl ⟨by kernel_rfl, ?_⟩) (by assumption) ?_; rotate_left; (focus ((try simp only [List.getElem_toArray, List.getElem_cons_zero, List.getElem_cons_succ]); intro w hSw; (try dsimp only at hSw); go_simp; all_goals (with_reducible rfl))); (try simp only [List.getElem_toArray, List.getElem_cons_zero, List.getElem_cons_succ, Act.put, List.setIfInBounds_toArray, List.set_cons_zero, List.set_cons_succ])); (refine wpAnyH_take (i := 3) (v := ?_) rfl (by kernel_rfl) (by kernel_rfl) (by kernel_rfl) (fun _ _ _ h => h) (Or.inl ⟨by kernel_rfl, ?_⟩) (by assumption) ?_; rotate_left; (focus ((try simp only [List.getElem_toArray, List.getElem_cons_zero, List.getElem_cons_succ]); intro w hSw; (try dsimp only at hSw); go_simp; all_goals (with_reducible rfl))); (try simp only [List.getElem_toArray, List.getElem_cons_zero, List.getElem_cons_succ, Act.put, List.setIfInBounds_toArray, List.set_cons_zero, List.set_cons_succ])); (refine wpAnyH_take (i := 4) (v := ?_) rfl (by kernel_rfl) (by kernel_rfl) (by kernel_rfl) (fun _ _ _ h => h) (Or.inl ⟨by kernel_rfl, ?_⟩) (by assumption) ?_; rotate_left; (focus ((try simp only [List.getElem_toArray, List.getElem_cons_zero, List.getElem_cons_succ]); intro w hSw; (try dsimp only at hSw); go_simp; all_goals (with_reducible rfl))); (try simp only [List.getElem_toArray, List.getElem_cons_zero, List.getElem_cons_succ, Act.put, List.setIfInBounds_toArray, List.set_cons_zero, List.set_cons_succ])); (refine wpAnyH_take (i := 7) (v := ?_) rfl (by kernel_rfl) (by kernel_rfl) (by kernel_rfl) (fun _ _ _ h => h) (Or.inl ⟨by kernel_rfl, ?_⟩) (by assumption) ?_; rotate_left; (focus ((try simp only [List.getElem_toArray, List.getElem_cons_zero, List.getElem_cons_succ]); intro w hSw; (try dsimp only at hSw); go_simp; all_goals (with_reducible rfl))); (try simp only [List.getElem_toArray, List.getElem_cons_zero, List.getElem_cons_succ, Act.put, List.setIfInBounds_toArray, List.set_cons_zero, List.set_cons_succ])); (refine wpAnyH_take (i := 8) (v := ?_) rfl (by kernel_rfl) (by kernel_rfl) (by kernel_rfl) (fun _ _ _ h => h) (Or.inl ⟨by kernel_rfl, ?_⟩) (by assumption) ?_; rotate_left; (focus ((try simp only [List.getElem_toArray, List.getElem_cons_zero, List.getElem_cons_succ]); intro w hSw; (try dsimp only at hSw); go_simp; all_goals (with_reducible rfl))); (try simp only [List.getElem_toArray, List.getElem_cons_zero, List.getElem_cons_succ, Act.put, List.setIfInBounds_toArray, List.set_cons_zero, List.set_cons_succ])); (refine wpAnyH_take (i := 9) (v := ?_) rfl (by kernel_rfl) (by kernel_rfl) (by kernel_rfl) (fun _ _ _ h => h) (Or.inl ⟨by kernel_rfl, ?_⟩) (by assumption) ?_; rotate_left; (focus ((try simp only [List.getElem_toArray, List.getElem_cons_zero, List.getElem_cons_succ]); intro w hSw; (try dsimp only at hSw); go_simp; all_goals (with_reducible rfl))); (try simp only [List.getElem_toArray, List.getElem_cons_zero, List.getElem_cons_succ, Act.put, List.setIfInBounds_toArray, List.set_cons_zero, List.set_cons_succ])))
            (refine wpAnyH_ready (rs := [2]) (by kernel_rfl) (by simp) ?_; refine AllReadyH.cons rfl (fun K hK => ?_) AllReadyH.nil; (try simp only [List.getElem_toArray, List.getElem_cons_zero, List.getElem_cons_succ]))
            (go_simp; go_at_call 18; go_split_ands; refine (lrank_any R A2 n2 c2 _ _ _ (rq.out.on (by assumption))).mono ?_; rintro e w5 ⟨rfl, hbc'⟩; have hbc := nx hbc'; clear hbc'; go_wp2_with fail)
            (refine hK.out _ _ (by (try dsimp only); go_split_ands; exact ⟨nx_cell hbc (by assumption), nx_cell hbc (by assumption), nx_cell hbc (by assumption), nx_cell hbc (by assumption), nx_cell hbc (by assumption), nx_step (by assumption) hbc⟩) (fun hHeld => ?_); clear hK K; (try simp only [List.getElem_toArray, List.getElem_cons_zero, List.getElem_cons_succ, Act.put, List.setIfInBounds_toArray, List.set_cons_zero, List.set_cons_succ]))
            (refine wpAnyH_ready (rs := [5]) (by kernel_rfl) (by simp) ?_; refine AllReadyH.cons rfl (fun K hK => ?_) AllReadyH.nil; (try simp only [List.getElem_toArray, List.getElem_cons_zero, List.getElem_cons_succ]))
            (go_simp; go_at_call 18; go_split_ands; refine (lrank_any R A2 n2 c2 _ _ _ (rq.out.on (by assumption))).mono ?_; rintro e w5 ⟨rfl, hbc'⟩; have hbc := nx hbc'; clear hbc'; go_wp2_with fail)
            (refine hK.out _ _ (by (try dsimp only); go_split_ands; exact ⟨nx_cell hbc (by assumption), nx_cell hbc (by assumption), nx_cell hbc (by assumption), nx_cell hbc (by assumption), nx_cell hbc (by assumption), nx_step (by assumption) hbc⟩) (fun hHeld => ?_); clear hK K; (try simp only [List.getElem_toArray, List.getElem_cons_zero, List.getElem_cons_succ, Act.put, List.setIfInBounds_toArray, List.set_cons_zero, List.set_cons_succ]))
            ((refine wpAnyH_take (i := 6) (v := ?_) rfl (by kernel_rfl) (by kernel_rfl) (by kernel_rfl) (fun _ _ _ h => h) (Or.inl ⟨by kernel_rfl, ?_⟩) (by assumption) ?_; rotate_left; (focus ((try simp only [List.getElem_toArray, List.getElem_cons_zero, List.getElem_cons_succ]); intro w hSw; (try dsimp only at hSw); go_simp; all_goals (with_reducible rfl))); (try simp only [List.getElem_toArray, List.getElem_cons_zero, List.getElem_cons_succ, Act.put, List.setIfInBounds_toArray, List.set_cons_zero, List.set_cons_succ])); (refine wpAnyH_take (i := 10) (v := ?_) rfl (by kernel_rfl) (by kernel_rfl) (by kernel_rfl) (fun _ _ _ h => h) (Or.inl ⟨by kernel_rfl, ?_⟩) (by assumption) ?_; rotate_left; (focus ((try simp only [List.getElem_toArray, List.getElem_cons_zero, List.getElem_cons_succ]); intro w hSw; (try dsimp only at hSw); go_simp; all_goals (with_reducible rfl))); (try simp only [List.getElem_toArray, List.getElem_cons_zero, List.getElem_cons_succ, Act.put, List.setIfInBounds_toArray, List.set_cons_zero, List.set_cons_succ])))
            ((refine wpAnyH_take (i := 11) (v := ?_) rfl (by kernel_rfl) (by kernel_rfl) (by kernel_rfl) (fun _ _ _ h => h) (Or.inl ⟨by kernel_rfl, ?_⟩) (by assumption) ?_; rotate_left; (focus ((try simp only [List.getElem_toArray, List.getElem_cons_zero, List.getElem_cons_succ]); intro w hSw; (try dsimp only at hSw); go_simp; all_goals (with_reducible rfl))); (try simp only [List.getElem_toArray, List.getElem_cons_zero, List.getElem_cons_succ, Act.put, List.setIfInBounds_toArray, List.set_cons_zero, List.set_cons_succ])); (refine wpAnyH_take (i := 12) (v := ?_) rfl (by kernel_rfl) (by kernel_rfl) (by kernel_rfl) (fun _ _ _ h => h) (Or.inl ⟨by kernel_rfl, ?_⟩) (by assumption) ?_; rotate_left; (focus ((try simp only [List.getElem_toArray, List.getElem_cons_zero, List.getElem_cons_succ]); intro w hSw; (try dsimp only at hSw); go_simp; all_goals (with_reducible rfl))); (try simp only [List.getElem_toArray, List.getElem_cons_zero, List.getElem_cons_succ, Act.put, List.setIfInBounds_toArray, List.set_cons_zero, List.set_cons_succ])); (refine wpAnyH_take (i := 13) (v := ?_) rfl (by kernel_rfl) (by kernel_rfl) (by kernel_rfl) (fun _ _ _ h => h) (Or.inl ⟨by kernel_rfl, ?_⟩) (by assumption) ?_; rotate_left; (focus ((try simp only [List.getElem_toArray, List.getElem_cons_zero, List.getElem_cons_succ]); intro w hSw; (try dsimp only at hSw); go_simp; all_goals (with_reducible rfl))); (try simp only [List.getElem_toArray, List.getElem_cons_zero, List.getElem_cons_succ, Act.put, List.setIfInBounds_toArray, List.set_cons_zero, List.set_cons_succ])); (refine wpAnyH_take (i := 14) (v := ?_) rfl (by kernel_rfl) (by kernel_rfl) (by kernel_rfl) (fun _ _ _ h => h) (Or.inl ⟨by kernel_rfl, ?_⟩) (by assumption) ?_; rotate_left; (focus ((try simp only [List.getElem_toArray, List.getElem_cons_zero, List.getElem_cons_succ]); intro w hSw; (try dsimp only at hSw); go_simp; all_goals (with_reducible rfl))); (try simp only [List.getElem_toArray, List.getElem_cons_zero, List.getElem_cons_succ, Act.put, List.setIfInBounds_toArray, List.set_cons_zero, List.set_cons_succ])); (refine wpAnyH_take (i := 15) (v := ?_) rfl (by kernel_rfl) (by kernel_rfl) (by kernel_rfl) (fun _ _ _ h => h) (Or.inl ⟨by kernel_rfl, ?_⟩) (by assumption) ?_; rotate_left; (focus ((try simp only [List.getElem_toArray, List.getElem_cons_zero, List.getElem_cons_succ]); intro w hSw; (try dsimp only at hSw); go_simp; all_goals (with_reducible rfl))); (try simp only [List.getElem_toArray, List.getElem_cons_zero, List.getElem_cons_succ, Act.put, List.setIfInBounds_toArray, List.set_cons_zero, List.set_cons_succ])))
            (refine wpAnyH_done (by kernel_rfl) ?_ _)
            have hfin : Below w3.heap.size w3 w5 := below_step hbx (by go_split_ands; assumption)
            go_wp2
            go_roundw
            case rel => exact ⟨i + 1, by omega, by go_num, hfin⟩
            case measure => simp [intOf]; omega
          · have hv : (rk R yk == rk R xk) = false := by rw [beq_eq_false_iff_ne]; omega
            have hg' : decide ((i : Int) < (f : Int) + (q : Int)) = false := by rw [decide_eq_false_iff_not]; omega
            clear hk1 hk2
            refine wp_region_held_drew (S := (fun w' => w'.cell? ⟨w.heap.size, 0, none⟩ = some (.int .i64 xk) ∧ w'.cell? ⟨w.heap.size, 1, none⟩ = some (.int .i64 xt) ∧ w'.cell? ⟨w.heap.size + 1, 0, none⟩ = some (.slice A2 n2 c2) ∧ w'.cell? ⟨wr.heap.size, 0, none⟩ = some (.int .i64 yk) ∧ w'.cell? ⟨wr.heap.size, 1, none⟩ = some (.int .i64 yt) ∧ Below W2.heap.size W2 w')) (by kernel_rfl) ⟨t0, t1, t2, y0, y1, (Below.refl _ _).drew⟩ (fun hHeld => ?_)
            ((refine wpAnyH_take (i := 0) (v := ?_) rfl (by kernel_rfl) (by kernel_rfl) (by kernel_rfl) (fun _ _ _ h => h) (Or.inl ⟨by kernel_rfl, ?_⟩) (by assumption) ?_; rotate_left; (focus ((try simp only [List.getElem_toArray, List.getElem_cons_zero, List.getElem_cons_succ]); intro w hSw; (try dsimp only at hSw); go_simp; all_goals (with_reducible rfl))); (try simp only [List.getElem_toArray, List.getElem_cons_zero, List.getElem_cons_succ, Act.put, List.setIfInBounds_toArray, List.set_cons_zero, List.set_cons_succ])); (refine wpAnyH_take (i := 1) (v := ?_) rfl (by kernel_rfl) (by kernel_rfl) (by kernel_rfl) (fun _ _ _ h => h) (Or.inl ⟨by kernel_rfl, ?_⟩) (by assumption) ?_; rotate_left; (focus ((try simp only [List.getElem_toArray, List.getElem_cons_zero, List.getElem_cons_succ]); intro w hSw; (try dsimp only at hSw); go_simp; all_goals (with_reducible rfl))); (try simp only [List.getElem_toArray, List.getElem_cons_zero, List.getElem_cons_succ, Act.put, List.setIfInBounds_toArray, List.set_cons_zero, List.set_cons_succ])); (refine wpAnyH_take (i := 3) (v := ?_) rfl (by kernel_rfl) (by kernel_rfl) (by kernel_rfl) (fun _ _ _ h => h) (Or.inl ⟨by kernel_rfl, ?_⟩) (by assumption) ?_; rotate_left; (focus ((try simp only [List.getElem_toArray, List.getElem_cons_zero, List.getElem_cons_succ]); intro w hSw; (try dsimp only at hSw); go_simp; all_goals (with_reducible rfl))); (try simp only [List.getElem_toArray, List.getElem_cons_zero, List.getElem_cons_succ, Act.put, List.setIfInBounds_toArray, List.set_cons_zero, List.set_cons_succ])); (refine wpAnyH_take (i := 4) (v := ?_) rfl (by kernel_rfl) (by kernel_rfl) (by kernel_rfl) (fun _ _ _ h => h) (Or.inl ⟨by kernel_rfl, ?_⟩) (by assumption) ?_; rotate_left; (focus ((try simp only [List.getElem_toArray, List.getElem_cons_zero, List.getElem_cons_succ]); intro w hSw; (try dsimp only at hSw); go_simp; all_goals (with_reducible rfl))); (try simp only [List.getElem_toArray, List.getElem_cons_zero, List.getElem_cons_succ, Act.put, List.setIfInBounds_toArray, List.set_cons_zero, List.set_cons_succ])); (refine wpAnyH_take (i := 7) (v := ?_) rfl (by kernel_rfl) (by kernel_rfl) (by kernel_rfl) (fun _ _ _ h => h) (Or.inl ⟨by kernel_rfl, ?_⟩) (by assumption) ?_; rotate_left; (focus ((try simp only [List.getElem_toArray, List.getElem_cons_zero, List.getElem_cons_succ]); intro w hSw; (try dsimp only at hSw); go_simp; all_goals (with_reducible rfl))); (try simp only [List.getElem_toArray, List.getElem_cons_zero, List.getElem_cons_succ, Act.put, List.setIfInBounds_toArray, List.set_cons_zero, List.set_cons_succ])); (refine wpAnyH_take (i := 8) (v := ?_) rfl (by kernel_rfl) (by kernel_rfl) (by kernel_rfl) (fun _ _ _ h => h) (Or.inl ⟨by kernel_rfl, ?_⟩) (by assumption) ?_; rotate_left; (focus ((try simp only [List.getElem_toArray, List.getElem_cons_zero, List.getElem_cons_succ]); intro w hSw; (try dsimp only at hSw); go_simp; all_goals (with_reducible rfl))); (try simp only [List.getElem_toArray, List.getElem_cons_zero, List.getElem_cons_succ, Act.put, List.setIfInBounds_toArray, List.set_cons_zero, List.set_cons_succ])); (refine wpAnyH_take (i := 9) (v := ?_) rfl (by kernel_rfl) (by kernel_rfl) (by kernel_rfl) (fun _ _ _ h => h) (Or.inl ⟨by kernel_rfl, ?_⟩) (by assumption) ?_; rotate_left; (focus ((try simp only [List.getElem_toArray, List.getElem_cons_zero, List.getElem_cons_succ]); intro w hSw; (try dsimp only at hSw); go_simp; all_goals (with_reducible rfl))); (try simp only [List.getElem_toArray, List.getElem_cons_zero, List.getElem_cons_succ, Act.put, List.setIfInBounds_toArray, List.set_cons_zero, List.set_cons_succ])))
            (refine wpAnyH_ready (rs := [2]) (by kernel_rfl) (by simp) ?_; refine AllReadyH.cons rfl (fun K hK => ?_) AllReadyH.nil; (try simp only [List.getElem_toArray, List.getElem_cons_zero, List.getElem_cons_succ]))
            (go_simp; go_at_call 18; go_split_ands; refine (lrank_any R A2 n2 c2 _ _ _ (rq.out.on (by assumption))).mono ?_; rintro e w5 ⟨rfl, hbc'⟩; have hbc := nx hbc'; clear hbc'; go_wp2_with fail)
            (refine hK.out _ _ (by (try dsimp only); go_split_ands; exact ⟨nx_cell hbc (by assumption), nx_cell hbc (by assumption), nx_cell hbc (by assumption), nx_cell hbc (by assumption), nx_cell hbc (by assumption), nx_step (by assumption) hbc⟩) (fun hHeld => ?_); clear hK K; (try simp only [List.getElem_toArray, List.getElem_cons_zero, List.getElem_cons_succ, Act.put, List.setIfInBounds_toArray, List.set_cons_zero, List.set_cons_succ]))
            (refine wpAnyH_ready (rs := [5]) (by kernel_rfl) (by simp) ?_; refine AllReadyH.cons rfl (fun K hK => ?_) AllReadyH.nil; (try simp only [List.getElem_toArray, List.getElem_cons_zero, List.getElem_cons_succ]))
            (go_simp; go_at_call 18; go_split_ands; refine (lrank_any R A2 n2 c2 _ _ _ (rq.out.on (by assumption))).mono ?_; rintro e w5 ⟨rfl, hbc'⟩; have hbc := nx hbc'; clear hbc'; go_wp2_with fail)
            (refine hK.out _ _ (by (try dsimp only); go_split_ands; exact ⟨nx_cell hbc (by assumption), nx_cell hbc (by assumption), nx_cell hbc (by assumption), nx_cell hbc (by assumption), nx_cell hbc (by assumption), nx_step (by assumption) hbc⟩) (fun hHeld => ?_); clear hK K; (try simp only [List.getElem_toArray, List.getElem_cons_zero, List.getElem_cons_succ, Act.put, List.setIfInBounds_toArray, List.set_cons_zero, List.set_cons_succ]))
            ((refine wpAnyH_take (i := 6) (v := ?_) rfl (by kernel_rfl) (by kernel_rfl) (by kernel_rfl) (fun _ _ _ h => h) (Or.inl ⟨by kernel_rfl, ?_⟩) (by assumption) ?_; rotate_left; (focus ((try simp only [List.getElem_toArray, List.getElem_cons_zero, List.getElem_cons_succ]); intro w hSw; (try dsimp only at hSw); go_simp; all_goals (with_reducible rfl))); (try simp only [List.getElem_toArray, List.getElem_cons_zero, List.getElem_cons_succ, Act.put, List.setIfInBounds_toArray, List.set_cons_zero, List.set_cons_succ])); (refine wpAnyH_take (i := 10) (v := ?_) rfl (by kernel_rfl) (by kernel_rfl) (by kernel_rfl) (fun _ _ _ h => h) (Or.inl ⟨by kernel_rfl, ?_⟩) (by assumption) ?_; rotate_left; (focus ((try simp only [List.getElem_toArray, List.getElem_cons_zero, List.getElem_cons_succ]); intro w hSw; (try dsimp only at hSw); go_simp; all_goals (with_reducible rfl))); (try simp only [List.getElem_toArray, List.getElem_cons_zero, List.getElem_cons_succ, Act.put, List.setIfInBounds_toArray, List.set_cons_zero, List.set_cons_succ])))
            ((refine wpAnyH_take (i := 11) (v := ?_) rfl (by kernel_rfl) (by kernel_rfl) (by kernel_rfl) (fun _ _ _ h => h) (Or.inl ⟨by kernel_rfl, ?_⟩) (by assumption) ?_; rotate_left; (focus ((try simp only [List.getElem_toArray, List.getElem_cons_zero, List.getElem_cons_succ]); intro w hSw; (try dsimp only at hSw); go_simp; all_goals (with_reducible rfl))); (try simp only [List.getElem_toArray, List.getElem_cons_zero, List.getElem_cons_succ, Act.put, List.setIfInBounds_toArray, List.set_cons_zero, List.set_cons_succ])); (refine wpAnyH_take (i := 12) (v := ?_) rfl (by kernel_rfl) (by kernel_rfl) (by kernel_rfl) (fun _ _ _ h => h) (Or.inl ⟨by kernel_rfl, ?_⟩) (by assumption) ?_; rotate_left; (focus ((try simp only [List.getElem_toArray, List.getElem_cons_zero, List.getElem_cons_succ]); intro w hSw; (try dsimp only at hSw); go_simp; all_goals (with_reducible rfl))); (try simp only [List.getElem_toArray, List.getElem_cons_zero, List.getElem_cons_succ, Act.put, List.setIfInBounds_toArray, List.set_cons_zero, List.set_cons_succ])); (refine wpAnyH_take (i := 13) (v := ?_) rfl (by kernel_rfl) (by kernel_rfl) (by kernel_rfl) (fun _ _ _ h => h) (Or.inl ⟨by kernel_rfl, ?_⟩) (by assumption) ?_; rotate_left; (focus ((try simp only [List.getElem_toArray, List.getElem_cons_zero, List.getElem_cons_succ]); intro w hSw; (try dsimp only at hSw); go_simp; all_goals (with_reducible rfl))); (try simp only [List.getElem_toArray, List.getElem_cons_zero, List.getElem_cons_succ, Act.put, List.setIfInBounds_toArray, List.set_cons_zero, List.set_cons_succ])); (refine wpAnyH_take (i := 14) (v := ?_) rfl (by kernel_rfl) (by kernel_rfl) (by kernel_rfl) (fun _ _ _ h => h) (Or.inl ⟨by kernel_rfl, ?_⟩) (by assumption) ?_; rotate_left; (focus ((try simp only [List.getElem_toArray, List.getElem_cons_zero, List.getElem_cons_succ]); intro w hSw; (try dsimp only at hSw); go_simp; all_goals (with_reducible rfl))); (try simp only [List.getElem_toArray, List.getElem_cons_zero, List.getElem_cons_succ, Act.put, List.setIfInBounds_toArray, List.set_cons_zero, List.set_cons_succ])); (refine wpAnyH_take (i := 15) (v := ?_) rfl (by kernel_rfl) (by kernel_rfl) (by kernel_rfl) (fun _ _ _ h => h) (Or.inl ⟨by kernel_rfl, ?_⟩) (by assumption) ?_; rotate_left; (focus ((try simp only [List.getElem_toArray, List.getElem_cons_zero, List.getElem_cons_succ]); intro w hSw; (try dsimp only at hSw); go_simp; all_goals (with_reducible rfl))); (try simp only [List.getElem_toArray, List.getElem_cons_zero, List.getElem_cons_succ, Act.put, List.setIfInBounds_toArray, List.set_cons_zero, List.set_cons_succ])))
            (refine wpAnyH_done (by kernel_rfl) ?_ _)
            have hfin : Below w3.heap.size w3 w5 := below_step hbx (by go_split_ands; assumption)
            go_wp2
            go_roundw
            case rel => exact ⟨i + 1, by omega, by go_num, hfin⟩
            case measure => simp [intOf]; omega
        · have hv : (rk R yk == rk R xk) = false := by rw [beq_eq_false_iff_ne]; omega
          have hg : decide ((f : Int) ≤ (i : Int)) = false := by rw [decide_eq_false_iff_not]; omega
          clear hk1 hk2
          refine wp_region_held_drew (S := (fun w' => w'.cell? ⟨w.heap.size, 0, none⟩ = some (.int .i64 xk) ∧ w'.cell? ⟨w.heap.size, 1, none⟩ = some (.int .i64 xt) ∧ w'.cell? ⟨w.heap.size + 1, 0, none⟩ = some (.slice A2 n2 c2) ∧ w'.cell? ⟨wr.heap.size, 0, none⟩ = some (.int .i64 yk) ∧ w'.cell? ⟨wr.heap.size, 1, none⟩ = some (.int .i64 yt) ∧ Below W2.heap.size W2 w')) (by kernel_rfl) ⟨t0, t1, t2, y0, y1, (Below.refl _ _).drew⟩ (fun hHeld => ?_)
          ((refine wpAnyH_take (i := 0) (v := ?_) rfl (by kernel_rfl) (by kernel_rfl) (by kernel_rfl) (fun _ _ _ h => h) (Or.inl ⟨by kernel_rfl, ?_⟩) (by assumption) ?_; rotate_left; (focus ((try simp only [List.getElem_toArray, List.getElem_cons_zero, List.getElem_cons_succ]); intro w hSw; (try dsimp only at hSw); go_simp; all_goals (with_reducible rfl))); (try simp only [List.getElem_toArray, List.getElem_cons_zero, List.getElem_cons_succ, Act.put, List.setIfInBounds_toArray, List.set_cons_zero, List.set_cons_succ])); (refine wpAnyH_take (i := 1) (v := ?_) rfl (by kernel_rfl) (by kernel_rfl) (by kernel_rfl) (fun _ _ _ h => h) (Or.inl ⟨by kernel_rfl, ?_⟩) (by assumption) ?_; rotate_left; (focus ((try simp only [List.getElem_toArray, List.getElem_cons_zero, List.getElem_cons_succ]); intro w hSw; (try dsimp only at hSw); go_simp; all_goals (with_reducible rfl))); (try simp only [List.getElem_toArray, List.getElem_cons_zero, List.getElem_cons_succ, Act.put, List.setIfInBounds_toArray, List.set_cons_zero, List.set_cons_succ])); (refine wpAnyH_take (i := 3) (v := ?_) rfl (by kernel_rfl) (by kernel_rfl) (by kernel_rfl) (fun _ _ _ h => h) (Or.inl ⟨by kernel_rfl, ?_⟩) (by assumption) ?_; rotate_left; (focus ((try simp only [List.getElem_toArray, List.getElem_cons_zero, List.getElem_cons_succ]); intro w hSw; (try dsimp only at hSw); go_simp; all_goals (with_reducible rfl))); (try simp only [List.getElem_toArray, List.getElem_cons_zero, List.getElem_cons_succ, Act.put, List.setIfInBounds_toArray, List.set_cons_zero, List.set_cons_succ])); (refine wpAnyH_take (i := 4) (v := ?_) rfl (by kernel_rfl) (by kernel_rfl) (by kernel_rfl) (fun _ _ _ h => h) (Or.inl ⟨by kernel_rfl, ?_⟩) (by assumption) ?_; rotate_left; (focus ((try simp only [List.getElem_toArray, List.getElem_cons_zero, List.getElem_cons_succ]); intro w hSw; (try dsimp only at hSw); go_simp; all_goals (with_reducible rfl))); (try simp only [List.getElem_toArray, List.getElem_cons_zero, List.getElem_cons_succ, Act.put, List.setIfInBounds_toArray, List.set_cons_zero, List.set_cons_succ])); (refine wpAnyH_take (i := 7) (v := ?_) rfl (by kernel_rfl) (by kernel_rfl) (by kernel_rfl) (fun _ _ _ h => h) (Or.inl ⟨by kernel_rfl, ?_⟩) (by assumption) ?_; rotate_left; (focus ((try simp only [List.getElem_toArray, List.getElem_cons_zero, List.getElem_cons_succ]); intro w hSw; (try dsimp only at hSw); go_simp; all_goals (with_reducible rfl))); (try simp only [List.getElem_toArray, List.getElem_cons_zero, List.getElem_cons_succ, Act.put, List.setIfInBounds_toArray, List.set_cons_zero, List.set_cons_succ])); (refine wpAnyH_take (i := 8) (v := ?_) rfl (by kernel_rfl) (by kernel_rfl) (by kernel_rfl) (fun _ _ _ h => h) (Or.inl ⟨by kernel_rfl, ?_⟩) (by assumption) ?_; rotate_left; (focus ((try simp only [List.getElem_toArray, List.getElem_cons_zero, List.getElem_cons_succ]); intro w hSw; (try dsimp only at hSw); go_simp; all_goals (with_reducible rfl))); (try simp only [List.getElem_toArray, List.getElem_cons_zero, List.getElem_cons_succ, Act.put, List.setIfInBounds_toArray, List.set_cons_zero, List.set_cons_succ])); (refine wpAnyH_take (i := 9) (v := ?_) rfl (by kernel_rfl) (by kernel_rfl) (by kernel_rfl) (fun _ _ _ h => h) (Or.inl ⟨by kernel_rfl, ?_⟩) (by assumption) ?_; rotate_left; (focus ((try simp only [List.getElem_toArray, List.getElem_cons_zero, List.getElem_cons_succ]); intro w hSw; (try dsimp only at hSw); go_simp; all_goals (with_reducible rfl))); (try simp only [List.getElem_toArray, List.getElem_cons_zero, List.getElem_cons_succ, Act.put, List.setIfInBounds_toArray, List.set_cons_zero, List.set_cons_succ])))
          (refine wpAnyH_ready (rs := [2]) (by kernel_rfl) (by simp) ?_; refine AllReadyH.cons rfl (fun K hK => ?_) AllReadyH.nil; (try simp only [List.getElem_toArray, List.getElem_cons_zero, List.getElem_cons_succ]))
          (go_simp; go_at_call 18; go_split_ands; refine (lrank_any R A2 n2 c2 _ _ _ (rq.out.on (by assumption))).mono ?_; rintro e w5 ⟨rfl, hbc'⟩; have hbc := nx hbc'; clear hbc'; go_wp2_with fail)
          (refine hK.out _ _ (by (try dsimp only); go_split_ands; exact ⟨nx_cell hbc (by assumption), nx_cell hbc (by assumption), nx_cell hbc (by assumption), nx_cell hbc (by assumption), nx_cell hbc (by assumption), nx_step (by assumption) hbc⟩) (fun hHeld => ?_); clear hK K; (try simp only [List.getElem_toArray, List.getElem_cons_zero, List.getElem_cons_succ, Act.put, List.setIfInBounds_toArray, List.set_cons_zero, List.set_cons_succ]))
          (refine wpAnyH_ready (rs := [5]) (by kernel_rfl) (by simp) ?_; refine AllReadyH.cons rfl (fun K hK => ?_) AllReadyH.nil; (try simp only [List.getElem_toArray, List.getElem_cons_zero, List.getElem_cons_succ]))
          (go_simp; go_at_call 18; go_split_ands; refine (lrank_any R A2 n2 c2 _ _ _ (rq.out.on (by assumption))).mono ?_; rintro e w5 ⟨rfl, hbc'⟩; have hbc := nx hbc'; clear hbc'; go_wp2_with fail)
          (refine hK.out _ _ (by (try dsimp only); go_split_ands; exact ⟨nx_cell hbc (by assumption), nx_cell hbc (by assumption), nx_cell hbc (by assumption), nx_cell hbc (by assumption), nx_cell hbc (by assumption), nx_step (by assumption) hbc⟩) (fun hHeld => ?_); clear hK K; (try simp only [List.getElem_toArray, List.getElem_cons_zero, List.getElem_cons_succ, Act.put, List.setIfInBounds_toArray, List.set_cons_zero, List.set_cons_succ]))
          ((refine wpAnyH_take (i := 6) (v := ?_) rfl (by kernel_rfl) (by kernel_rfl) (by kernel_rfl) (fun _ _ _ h => h) (Or.inl ⟨by kernel_rfl, ?_⟩) (by assumption) ?_; rotate_left; (focus ((try simp only [List.getElem_toArray, List.getElem_cons_zero, List.getElem_cons_succ]); intro w hSw; (try dsimp only at hSw); go_simp; all_goals (with_reducible rfl))); (try simp only [List.getElem_toArray, List.getElem_cons_zero, List.getElem_cons_succ, Act.put, List.setIfInBounds_toArray, List.set_cons_zero, List.set_cons_succ])); (refine wpAnyH_take (i := 10) (v := ?_) rfl (by kernel_rfl) (by kernel_rfl) (by kernel_rfl) (fun _ _ _ h => h) (Or.inl ⟨by kernel_rfl, ?_⟩) (by assumption) ?_; rotate_left; (focus ((try simp only [List.getElem_toArray, List.getElem_cons_zero, List.getElem_cons_succ]); intro w hSw; (try dsimp only at hSw); go_simp; all_goals (with_reducible rfl))); (try simp only [List.getElem_toArray, List.getElem_cons_zero, List.getElem_cons_succ, Act.put, List.setIfInBounds_toArray, List.set_cons_zero, List.set_cons_succ])))
          ((refine wpAnyH_take (i := 11) (v := undef) rfl (by kernel_rfl) (by kernel_rfl) (by kernel_rfl) (fun _ _ _ h => h) (Or.inr ⟨by kernel_rfl, rfl⟩) (by assumption) ?_; (try simp only [List.getElem_toArray, List.getElem_cons_zero, List.getElem_cons_succ, Act.put, List.setIfInBounds_toArray, List.set_cons_zero, List.set_cons_succ])); (refine wpAnyH_take (i := 12) (v := undef) rfl (by kernel_rfl) (by kernel_rfl) (by kernel_rfl) (fun _ _ _ h => h) (Or.inr ⟨by kernel_rfl, rfl⟩) (by assumption) ?_; (try simp only [List.getElem_toArray, List.getElem_cons_zero, List.getElem_cons_succ, Act.put, List.setIfInBounds_toArray, List.set_cons_zero, List.set_cons_succ])); (refine wpAnyH_take (i := 13) (v := undef) rfl (by kernel_rfl) (by kernel_rfl) (by kernel_rfl) (fun _ _ _ h => h) (Or.inr ⟨by kernel_rfl, rfl⟩) (by assumption) ?_; (try simp only [List.getElem_toArray, List.getElem_cons_zero, List.getElem_cons_succ, Act.put, List.setIfInBounds_toArray, List.set_cons_zero, List.set_cons_succ])))
          ((refine wpAnyH_take (i := 14) (v := ?_) rfl (by kernel_rfl) (by kernel_rfl) (by kernel_rfl) (fun _ _ _ h => h) (Or.inl ⟨by kernel_rfl, ?_⟩) (by assumption) ?_; rotate_left; (focus ((try simp only [List.getElem_toArray, List.getElem_cons_zero, List.getElem_cons_succ]); intro w hSw; (try dsimp only at hSw); go_simp; all_goals (with_reducible rfl))); (try simp only [List.getElem_toArray, List.getElem_cons_zero, List.getElem_cons_succ, Act.put, List.setIfInBounds_toArray, List.set_cons_zero, List.set_cons_succ])); (refine wpAnyH_take (i := 15) (v := ?_) rfl (by kernel_rfl) (by kernel_rfl) (by kernel_rfl) (fun _ _ _ h => h) (Or.inl ⟨by kernel_rfl, ?_⟩) (by assumption) ?_; rotate_left; (focus ((try simp only [List.getElem_toArray, List.getElem_cons_zero, List.getElem_cons_succ]); intro w hSw; (try dsimp only at hSw); go_simp; all_goals (with_reducible rfl))); (try simp only [List.getElem_toArray, List.getElem_cons_zero, List.getElem_cons_succ, Act.put, List.setIfInBounds_toArray, List.set_cons_zero, List.set_cons_succ])))
          (refine wpAnyH_done (by kernel_rfl) ?_ _)
          have hfin : Below w3.heap.size w3 w5 := below_step hbx (by go_split_ands; assumption)
          go_wp2
          go_roundw
          case rel => exact ⟨i + 1, by omega, by go_num, hfin⟩
          case measure => simp [intOf]; omega
      · obtain rfl : i = n0 := by omega
        go_wp2
        go_ret
        exact ⟨rfl, below_step bw3 hbel⟩
end Go.Proofs.Ytbfeokhkmlcgaaa

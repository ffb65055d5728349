/- The contract of laws.patience, and FnPatience: returns true for every list and order. -/
import Derived.Test.YtnhaolhkanakeaaLongest
import Derived.Test.YtnhaolhkanakeaaLFirst
import Derived.Test.YtnhaolhkanakeaaLPast
import Derived.Test.YtnhaolhkanakeaaInside
import Derived.Test.YtnhaolhkanakeaaOpen
namespace Go.Proofs.Ytnhaolhkanakeaa
open Go.RowKit
attribute [local go_sem ↓] Go.wp_at_zero Go.wp_at_succ
theorem pile_first (R : List Int) (P : List (Int × Int)) (x : Int × Int) : pileAt (rI R) true P x = less R P x.1 := by
  unfold pileAt less
  congr 1
  funext a
  rw [Bool.eq_iff_iff, ltS_true, decide_eq_true_eq]
  exact Iff.rfl
theorem pile_past (R : List Int) (P : List (Int × Int)) (x : Int × Int) : pileAt (rI R) false P x = less R P x.1 + eqs R P x.1 := by
  rw [less_eqs]
  unfold pileAt
  congr 1
  funext a
  rw [Bool.eq_iff_iff, ltS_false, decide_eq_true_eq]
  exact Iff.rfl
theorem pilesF_take (R : List Int) (s : Bool) (l : List (Int × Int)) (i : Nat) (h : i < l.length) : pilesF (rI R) s (l.take (i + 1)) = pileStep (rI R) s (pilesF (rI R) s (l.take i)) (it l i) := by
  rw [it_snoc l i h, pilesF_snoc]

set_option linter.unusedSimpArgs false in
set_option maxHeartbeats 6000000 in
theorem patience_any (R : List Int) (A2 : Option Addr) (n2 c2 : Nat) (l0 : List (Int × Int)) (A0 : Option Addr) (n0 c0 : Nat) (past : Bool) (w : World) (r0 : Rd w w.heap.size 2 A0 n0 (cI l0)) (r2 : Rd w w.heap.size 1 A2 n2 (cZ R)) (hn : n0 * 16 ≤ 140737488351232) :
    Calls Try.prog 17 #[.slice A0 n0 c0, .agg #[.slice A2 n2 c2], .bool past] w fun e w' => e = .returned (.int .i64 ((pilesF (rI R) (!past) l0).length : Nat)) ∧ Below w.heap.size w w' := by
  have HL := Lib.hid (rdI_len r0)
  have hb0 := below_alloc1 w (.cells #[.slice A2 n2 c2] 27)
  have d2 : (w.alloc (.cells #[.slice A2 n2 c2] 27)).cell? ⟨w.heap.size, 0, none⟩ = some (.slice A2 n2 c2) := by simp [go_sem]
  have ra := Lib.hid (r0.on hb0)
  have rr := Lib.hid (r2.on hb0)
  clear r0 r2
  go_enter Try.func17, Try.ntmps17
  go_wp2
  generalize w.alloc (.cells #[.slice A2 n2 c2] 27) = W at *
  go_loopw [7, 13] (fun v s wr => ∃ (i : Nat) (A : Option Addr) (c : Nat) (P : List (Int × Int)), i ≤ n0 ∧ s = .int .i64 i ∧ Hid (P = pilesF (rI R) (!past) (l0.take i)) ∧ v = .slice A P.length c ∧ wr.ownsRow W.heap.size 24 2 (.slice A P.length c) P.length (cI P) ∧ Below W.heap.size W wr) (fun _ s _ => n0 - (intOf s).toNat)
  case atStart => exact ⟨0, none, 0, [], Nat.zero_le _, rfl, rfl, rfl, own_nil _ _ _ _, Below.refl _ _⟩
  case round =>
    obtain ⟨i, A, c, P, hi, rfl, HP, rfl, hown, hbel⟩ := hrel
    have hPl : P.length ≤ i := by
      have := piles_len_le (rI R) (!past) (l0.take i)
      rw [← HP.out, List.length_take] at this
      omega
    by_cases hlt : i < n0
    · obtain ⟨b, off, rfl, _, hc1, hc2⟩ := rdI_at (k := i) (ra.out.on hbel) hlt
      have HT := Lib.hid (pilesF_take R (!past) l0 i (by rw [HL.out]; exact hlt))
      obtain ⟨x, hx⟩ : ∃ x, x = it l0 i := ⟨_, rfl⟩
      rw [← hx] at hc1 hc2 HT
      rw [← HP.out] at HT
      clear hx
      have hsr : Srt (rI R) P := by rw [HP.out]; exact piles_srt (rI R) (!past) (l0.take i)
      have HS1 := Lib.hid (first_step hsr x)
      have HS2 := Lib.hid (past_step hsr x)
      clear hsr
      have hbx := hbel.alloc hbel.size (.cells #[.int .i64 x.1, .int .i64 x.2] 24)
      have t2 := cell_on hbx d2
      have y0 : (wr.alloc (.cells #[.int .i64 x.1, .int .i64 x.2] 24)).cell? ⟨wr.heap.size, 0, none⟩ = some (.int .i64 x.1) := by simp [go_sem]
      have y1 : (wr.alloc (.cells #[.int .i64 x.1, .int .i64 x.2] 24)).cell? ⟨wr.heap.size, 1, none⟩ = some (.int .i64 x.2) := by simp [go_sem]
      have rq := Lib.hid (rr.out.on hbx)
      have HO := Lib.hid (hown.alloc (.cells #[.int .i64 x.1, .int .i64 x.2] 24))
      have ro := Lib.hid (Rd.of_own HO.out)
      clear hown
      go_wp2_with fail
      generalize wr.alloc (.cells #[.int .i64 x.1, .int .i64 x.2] 24) = W2 at hbx t2 y0 y1 rq HO ro ⊢
      refine (SearchFirst_any R A2 n2 c2 P A P.length c x _ rq.out ro.out (by omega)).mono ?_
      rintro e w3 ⟨r1, hcut, rfl, hb3⟩
      have HR1 := Lib.hid (HS1.out.cut hcut)
      have hr1 := hcut.1
      clear hcut
      have u0 := cell_on hb3 y0
      have u1 := cell_on hb3 y1
      have u2 := cell_on hb3 t2
      have HO3 := Lib.hid (own_on HO.out hb3)
      have ro3 := Lib.hid (ro.out.on hb3)
      have rq3 := Lib.hid (rq.out.on hb3)
      have b3 := below_step hbx hb3
      clear y0 y1 t2 HO ro rq hbx
      cases past
      · have HA : Hid (pileAt (rI R) (!false) P x = r1) := by unfold Hid; rw [Bool.not_false, pile_first, HR1.out]
        have hsp : r1 = P.length ∨ r1 < P.length := by omega
        rcases hsp with he | he
        · subst he
          have HN : Hid (P ++ [x] = pilesF (rI R) (!false) (l0.take (i + 1))) := by unfold Hid; rw [HT.out]; unfold pileStep; rw [HA.out, if_pos rfl]
          have o4 := HO3.out
          have eqq : ((P.length : Int) == (P.length : Int)) = true := by simp
          go_wp2_with (first
            | (go_at_call 27; refine (inside_yes _ _ _ (by omega) (by omega)).mono ?_; rintro e w4' ⟨rfl, rfl⟩)
            | (at_builtin; refine wpList_app eI rfl _ _ rfl W.heap.size w3 A P.length c _ rfl o4 #[.int .i64 x.1, .int .i64 x.2] rfl rfl (one_two _ _ _ _) (by omega) (by unfold maxLen; omega) (Below.size b3) ?_; rintro g cap w6 ⟨o6, bl6, _, _, _⟩))
          rw [cI_snoc, show P.length + 1 = (P ++ [x]).length by simp] at o6
          have HLn : Hid (P.length + 1 = (P ++ [x]).length) := by unfold Hid; simp
          have b6 := Below.trans b3 bl6
          clear o4
          go_roundw
          case rel => exact ⟨i + 1, some ⟨g, 0, none⟩, cap, P ++ [x], by omega, by go_num, HN, by rw [HLn.out], o6, b6⟩
          case measure => simp [intOf]; omega
        · have HN : Hid (P.set r1 x = pilesF (rI R) (!false) (l0.take (i + 1))) := by unfold Hid; rw [HT.out]; unfold pileStep; rw [HA.out, if_neg (by omega)]
          have hneq : ((r1 : Int) == (P.length : Int)) = false := by rw [beq_eq_false_iff_ne]; omega
          have o4 := HO3.out
          obtain ⟨g, rfl⟩ : ∃ g, A = some ⟨g, 0, none⟩ := by
            rcases o4.2 with ⟨h, h0⟩ | ⟨g, cap, cur, hv, _⟩
            · exfalso; omega
            · injection hv with hA; exact ⟨g, hA⟩
          have q0 : (0 : Int) ≤ (r1 : Int) := Int.natCast_nonneg _
          have q1 : (r1 : Int) < (P.length : Int) := by omega
          obtain ⟨s1, g1⟩ := o4.stored (r1 * 2) (.int .i64 x.1)
          obtain ⟨s2, g2⟩ := s1.stored (r1 * 2 + 1) (.int .i64 x.2)
          rw [cI_set] at s2
          have x1 : w3.cell? ⟨g, r1 * 2, none⟩ = some (.int .i64 (it P r1).1) := by
            rw [o4.cellAt _ (by omega), Nat.mul_comm, (cI_at P r1 he).1, it_lt he]
          have x2 : w3.cell? ⟨g, r1 * 2 + 1, none⟩ = some (.int .i64 (it P r1).2) := by
            rw [o4.cellAt _ (by omega), Nat.mul_comm, (cI_at P r1 he).2, it_lt he]
          have f1 := o4.frozenAt (r1 * 2)
          have f2 := o4.frozenAt (r1 * 2 + 1)
          have hg := (o4.lt g rfl).1
          have b6 := (Below.setCell b3 (p := ⟨g, r1 * 2, none⟩) hg (.int .i64 x.1)).setCell (p := ⟨g, r1 * 2 + 1, none⟩) hg (.int .i64 x.2)
          have HLn : Hid (P.length = (P.set r1 x).length) := by unfold Hid; simp
          clear s1 g1 g2 o4
          go_wp2_with (first
            | (go_at_call 27; refine (inside_yes _ _ _ (by omega) (by omega)).mono ?_; rintro e w4' ⟨rfl, rfl⟩) | fail)
          go_roundw
          case rel => exact ⟨i + 1, some ⟨g, 0, none⟩, c, P.set r1 x, by omega, by go_num, HN, by rw [← HLn.out], by rw [← HLn.out]; exact s2, b6⟩
          case measure => simp [intOf]; omega
      · go_wp2_with fail
        refine (SearchPast_any R A2 n2 c2 P A P.length c x _ rq3.out ro3.out (by omega)).mono ?_
        rintro e w4 ⟨r2, hcut, rfl, hb4⟩
        have HR2 := Lib.hid (HS2.out.cut hcut)
        have hr2 := hcut.1
        clear hcut
        have HA : Hid (pileAt (rI R) (!true) P x = r2) := by unfold Hid; rw [Bool.not_true, pile_past, HR2.out]
        have v0 := cell_on hb4 u0
        have v1 := cell_on hb4 u1
        have HO4 := Lib.hid (own_on HO3.out hb4)
        have b4 := below_step b3 hb4
        clear u0 u1 u2 HO3 ro3 rq3
        have hsp : r2 = P.length ∨ r2 < P.length := by omega
        rcases hsp with he | he
        · subst he
          have HN : Hid (P ++ [x] = pilesF (rI R) (!true) (l0.take (i + 1))) := by unfold Hid; rw [HT.out]; unfold pileStep; rw [HA.out, if_pos rfl]
          have o4 := HO4.out
          have eqq : ((P.length : Int) == (P.length : Int)) = true := by simp
          go_wp2_with (first
            | (go_at_call 27; refine (inside_yes _ _ _ (by omega) (by omega)).mono ?_; rintro e w4' ⟨rfl, rfl⟩)
            | (at_builtin; refine wpList_app eI rfl _ _ rfl W.heap.size w4 A P.length c _ rfl o4 #[.int .i64 x.1, .int .i64 x.2] rfl rfl (one_two _ _ _ _) (by omega) (by unfold maxLen; omega) (Below.size b4) ?_; rintro g cap w6 ⟨o6, bl6, _, _, _⟩))
          rw [cI_snoc, show P.length + 1 = (P ++ [x]).length by simp] at o6
          have HLn : Hid (P.length + 1 = (P ++ [x]).length) := by unfold Hid; simp
          have b6 := Below.trans b4 bl6
          clear o4
          go_roundw
          case rel => exact ⟨i + 1, some ⟨g, 0, none⟩, cap, P ++ [x], by omega, by go_num, HN, by rw [HLn.out], o6, b6⟩
          case measure => simp [intOf]; omega
        · have HN : Hid (P.set r2 x = pilesF (rI R) (!true) (l0.take (i + 1))) := by unfold Hid; rw [HT.out]; unfold pileStep; rw [HA.out, if_neg (by omega)]
          have hneq : ((r2 : Int) == (P.length : Int)) = false := by rw [beq_eq_false_iff_ne]; omega
          have o4 := HO4.out
          obtain ⟨g, rfl⟩ : ∃ g, A = some ⟨g, 0, none⟩ := by
            rcases o4.2 with ⟨h, h0⟩ | ⟨g, cap, cur, hv, _⟩
            · exfalso; omega
            · injection hv with hA; exact ⟨g, hA⟩
          have q0 : (0 : Int) ≤ (r2 : Int) := Int.natCast_nonneg _
          have q1 : (r2 : Int) < (P.length : Int) := by omega
          obtain ⟨s1, g1⟩ := o4.stored (r2 * 2) (.int .i64 x.1)
          obtain ⟨s2, g2⟩ := s1.stored (r2 * 2 + 1) (.int .i64 x.2)
          rw [cI_set] at s2
          have x1 : w4.cell? ⟨g, r2 * 2, none⟩ = some (.int .i64 (it P r2).1) := by
            rw [o4.cellAt _ (by omega), Nat.mul_comm, (cI_at P r2 he).1, it_lt he]
          have x2 : w4.cell? ⟨g, r2 * 2 + 1, none⟩ = some (.int .i64 (it P r2).2) := by
            rw [o4.cellAt _ (by omega), Nat.mul_comm, (cI_at P r2 he).2, it_lt he]
          have f1 := o4.frozenAt (r2 * 2)
          have f2 := o4.frozenAt (r2 * 2 + 1)
          have hg := (o4.lt g rfl).1
          have b6 := (Below.setCell b4 (p := ⟨g, r2 * 2, none⟩) hg (.int .i64 x.1)).setCell (p := ⟨g, r2 * 2 + 1, none⟩) hg (.int .i64 x.2)
          have HLn : Hid (P.length = (P.set r2 x).length) := by unfold Hid; simp
          clear s1 g1 g2 o4
          go_wp2_with (first
            | (go_at_call 27; refine (inside_yes _ _ _ (by omega) (by omega)).mono ?_; rintro e w4' ⟨rfl, rfl⟩) | fail)
          go_roundw
          case rel => exact ⟨i + 1, some ⟨g, 0, none⟩, c, P.set r2 x, by omega, by go_num, HN, by rw [← HLn.out], by rw [← HLn.out]; exact s2, b6⟩
          case measure => simp [intOf]; omega
    · obtain rfl : i = n0 := by omega
      have HF : Hid (P = pilesF (rI R) (!past) l0) := by unfold Hid; rw [HP.out, List.take_of_length_le (by rw [HL.out]; exact Nat.le_refl _)]
      clear hown
      go_wp2
      go_ret
      exact ⟨by rw [← HF.out]; rfl, below_step hb0 hbel⟩

set_option linter.unusedSimpArgs false in
set_option maxHeartbeats 6000000 in
theorem wFnPatience (A0 : Option Addr) (n0 c0 : Nat) (l0 : List (Int × Int)) (A2 : Option Addr) (n2 c2 : Nat) (R : List Int) (w : World)
    (r0 : Rd w w.heap.size 2 A0 n0 (cI l0)) (_z0 : ∀ y ∈ l0, InI y.1 ∧ InI y.2) (le0 : n0 ≤ c0) (b0 : c0 * 16 ≤ 140737488351232)
    (r2 : Rd w w.heap.size 1 A2 n2 (cZ R)) (_z2 : ∀ y ∈ R, InI y) (_le2 : n2 ≤ c2) (_b2 : c2 * 8 ≤ 140737488351232) :
    Calls Try.prog 4 #[.slice A0 n0 c0, .agg #[.slice A2 n2 c2]] w fun e w' => e = .returned (.bool true) ∧ Below w.heap.size w w' := by
  clear _z0 _z2 _le2 _b2
  have hn : n0 * 16 ≤ 140737488351232 := by omega
  have hb0 := below_alloc1 w (.cells #[.slice A2 n2 c2] 27)
  have d2 : (w.alloc (.cells #[.slice A2 n2 c2] 27)).cell? ⟨w.heap.size, 0, none⟩ = some (.slice A2 n2 c2) := by simp [go_sem]
  have ra := Lib.hid (r0.on hb0)
  have rr := Lib.hid (r2.on hb0)
  clear r0 r2 le0 b0
  obtain ⟨p, hp⟩ : ∃ p, p = bestF (endsF false (l0.map (rI R))) := ⟨_, rfl⟩
  obtain ⟨q, hq⟩ : ∃ q, q = bestF (endsF true (l0.map (rI R))) := ⟨_, rfl⟩
  have HP1 : Hid ((pilesF (rI R) (!true) l0).length = p) := by unfold Hid; rw [hp]; exact patience_law (rI R) false l0
  have HQ1 : Hid ((pilesF (rI R) (!false) l0).length = q) := by unfold Hid; rw [hq]; exact patience_law (rI R) true l0
  have HP2 := Lib.hid hp.symm
  have HQ2 := Lib.hid hq.symm
  clear hp hq
  have ep : ((p : Int) == (p : Int)) = true := by simp
  have eq : ((q : Int) == (q : Int)) = true := by simp
  go_enter Try.func4, Try.ntmps4
  go_wp2_with fail
  generalize w.alloc (.cells #[.slice A2 n2 c2] 27) = W at *
  go_region_held3 (fun w' => w'.cell? ⟨w.heap.size, 0, none⟩ = some (.slice A2 n2 c2) ∧ Below W.heap.size W w')
    (first | (exact ⟨d2, (Below.refl _ _).drew⟩) | (go_split_ands; exact ⟨nx_cell hbc (by assumption), nx_step (by assumption) hbc⟩))
    (first
      | (go_at_call 17; go_split_ands; ((with_reducible refine (patience_any R A2 n2 c2 l0 A0 n0 c0 true _ (ra.out.on (by assumption)) (rr.out.on (by assumption)) hn).mono ?_); rw [HP1.out]; rintro e w1 ⟨rfl, hbc'⟩); have hbc := nx hbc'; clear hbc')
      | (go_at_call 17; go_split_ands; ((with_reducible refine (patience_any R A2 n2 c2 l0 A0 n0 c0 false _ (ra.out.on (by assumption)) (rr.out.on (by assumption)) hn).mono ?_); rw [HQ1.out]; rintro e w2 ⟨rfl, hbc'⟩); have hbc := nx hbc'; clear hbc')
      | (go_at_call 15; go_split_ands; refine (theirs_any l0 A0 n0 c0 _ (ra.out.on (by assumption)) hn).mono ?_; rintro e w3 ⟨A3, c3, rfl, o3, hbc'⟩; have rt := Lib.hid (Rd.of_own o3); have hle3 := own_le o3; clear o3; have hbc := nx hbc'; clear hbc')
      | (go_at_call 18; go_split_ands; ((with_reducible refine (Longest_any l0 A3 n0 c3 R A2 n2 c2 false _ (by refine Rd.on (rt.out) ?_; repeat (first | exact Below.refl _ _ | refine nx_step ?_ (by with_reducible assumption))) (rr.out.on (by assumption)) hle3 hn).mono ?_); rw [HP2.out]; rintro e w4 ⟨rfl, hbc'⟩); have hbc := nx hbc'; clear hbc')
      | (go_at_call 18; go_split_ands; ((with_reducible refine (Longest_any l0 A3 n0 c3 R A2 n2 c2 true _ (by refine Rd.on (rt.out) ?_; repeat (first | exact Below.refl _ _ | refine nx_step ?_ (by with_reducible assumption))) (rr.out.on (by assumption)) hle3 hn).mono ?_); rw [HQ2.out]; rintro e w5 ⟨rfl, hbc'⟩); have hbc := nx hbc'; clear hbc'))
  all_goals
    go_wp2
    go_ret
    exact ⟨rfl, below_step hb0 (by go_split_ands; assumption)⟩
end Go.Proofs.Ytnhaolhkanakeaa

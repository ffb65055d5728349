/- FnMerged returns true: for every two lists and every order. Conditions: the lists have room for at most 1048576 values each. -/
import Derived.Test.YtdojnocmapkodaaImplStable
import Derived.Test.YtdojnocmapkodaaInside
import Derived.Test.YtdojnocmapkodaaLFirst
import Derived.Test.YtdojnocmapkodaaLPast
import Derived.Test.YtdojnocmapkodaaCountsPlain
import Derived.Test.YtdojnocmapkodaaPlaces
import Derived.Test.YtdojnocmapkodaaJoined
import Derived.Test.YtdojnocmapkodaaSame
import Derived.Test.YtdojnocmapkodaaSteps
import Derived.Test.YtdojnocmapkodaaOpen
import Derived.Deep.RegionHeld3
import Derived.IntWalk
namespace Go.Proofs.Ytdojnocmapkodaa
open Go.RowKit
attribute [local go_sem ↓] Go.wp_at_zero Go.wp_at_succ
theorem merged_it_left (R : List Int) (l m : List (Int × Int)) (i : Nat) (hi : i < l.length) :
    i + less R (stab (rJ R) m) (it (stab (rJ R) l) i).1 < l.length + m.length ∧ it (stab (rJ R) (l ++ m)) (i + less R (stab (rJ R) m) (it (stab (rJ R) l) i).1) = it (stab (rJ R) l) i := by
  have hi' : i < (stab (rJ R) l).length := by rw [stab_len]; exact hi
  have h := merged_left (rJ R) (stab (rJ R) l) (stab (rJ R) m) (stab_srt _ _) i hi'
  rw [stab_app_both] at h
  rw [it_lt hi']
  have e : less R (stab (rJ R) m) ((stab (rJ R) l)[i]).1 = cLt (rJ R) (rJ R (stab (rJ R) l)[i]) (stab (rJ R) m) := rfl
  rw [e]
  obtain ⟨h1, h2⟩ := List.getElem?_eq_some_iff.1 h
  refine ⟨by rw [stab_len, List.length_append] at h1; exact h1, ?_⟩
  rw [it_lt h1, h2]
theorem merged_it_right (R : List Int) (l m : List (Int × Int)) (i : Nat) (hi : i < m.length) :
    i + (less R (stab (rJ R) l) (it (stab (rJ R) m) i).1 + eqs R (stab (rJ R) l) (it (stab (rJ R) m) i).1) < l.length + m.length ∧ it (stab (rJ R) (l ++ m)) (i + (less R (stab (rJ R) l) (it (stab (rJ R) m) i).1 + eqs R (stab (rJ R) l) (it (stab (rJ R) m) i).1)) = it (stab (rJ R) m) i := by
  have hi' : i < (stab (rJ R) m).length := by rw [stab_len]; exact hi
  have h := merged_right (rJ R) (stab (rJ R) l) (stab (rJ R) m) (stab_srt _ _) i hi'
  rw [stab_app_both] at h
  rw [it_lt hi']
  have e : less R (stab (rJ R) l) ((stab (rJ R) m)[i]).1 + eqs R (stab (rJ R) l) ((stab (rJ R) m)[i]).1 = cLt (rJ R) (rJ R (stab (rJ R) m)[i]) (stab (rJ R) l) + cEq (rJ R) (rJ R (stab (rJ R) m)[i]) (stab (rJ R) l) := rfl
  rw [e]
  obtain ⟨h1, h2⟩ := List.getElem?_eq_some_iff.1 h
  refine ⟨by rw [stab_len, List.length_append] at h1; exact h1, ?_⟩
  rw [it_lt h1, h2]

set_option linter.unusedSimpArgs false in
set_option maxHeartbeats 6000000 in
theorem wFnMerged (A0 : Option Addr) (n0 c0 : Nat) (l0 : List (Int × Int)) (A1 : Option Addr) (n1 c1 : Nat) (l1 : List (Int × Int)) (A2 : Option Addr) (n2 c2 : Nat) (R : List Int) (w : World)
    (r0 : Rd w w.heap.size 2 A0 n0 (cI l0)) (_z0 : ∀ y ∈ l0, InI y.1 ∧ InI y.2) (le0 : n0 ≤ c0) (_b0 : c0 * 16 ≤ 140737488351232) (u0 : c0 ≤ 1048576)
    (r1 : Rd w w.heap.size 2 A1 n1 (cI l1)) (_z1 : ∀ y ∈ l1, InI y.1 ∧ InI y.2) (le1 : n1 ≤ c1) (_b1 : c1 * 16 ≤ 140737488351232) (u1 : c1 ≤ 1048576)
    (r2 : Rd w w.heap.size 1 A2 n2 (cZ R)) (_z2 : ∀ y ∈ R, InI y) (_le2 : n2 ≤ c2) (_b2 : c2 * 8 ≤ 140737488351232) :
    Calls Try.prog 9 #[.slice A0 n0 c0, .slice A1 n1 c1, .agg #[.slice A2 n2 c2]] w fun e w' => e = .returned (.bool true) ∧ Below w.heap.size w w' := by
  clear _z0 _z1 _z2 _le2 _b2 _b0 _b1
  have hn0 : n0 ≤ 1048576 := by omega
  have hn1 : n1 ≤ 1048576 := by omega
  have HL0 := Lib.hid (rdI_len r0)
  have HL1 := Lib.hid (rdI_len r1)
  have hb0 := below_alloc1 w (.cells #[.slice A2 n2 c2] 25)
  have d2 : (w.alloc (.cells #[.slice A2 n2 c2] 25)).cell? ⟨w.heap.size, 0, none⟩ = some (.slice A2 n2 c2) := by simp [go_sem]
  have ra := Lib.hid (r0.on hb0)
  have rb := Lib.hid (r1.on hb0)
  have rr := Lib.hid (r2.on hb0)
  clear r0 r1 r2 le0 le1 u0 u1
  obtain ⟨n, hnn⟩ : ∃ n, n = n0 + n1 := ⟨_, rfl⟩
  have hnb : n ≤ 2097152 := by omega
  have HNN := Lib.hid hnn.symm
  have h0n : n0 ≤ n := by omega
  have h1n : n1 ≤ n := by omega
  have hw0 : (n0 : Int) + (n1 : Int) = (n : Int) := by omega
  clear hnn
  go_enter Try.func9, Try.ntmps9
  go_wp2_with fail
  generalize w.alloc (.cells #[.slice A2 n2 c2] 25) = W0 at *
  go_region_held3 (fun w' => w'.cell? ⟨w.heap.size, 0, none⟩ = some (.slice A2 n2 c2) ∧ Below W0.heap.size W0 w')
    (first | (exact ⟨d2, (Below.refl _ _).drew⟩) | (go_split_ands; exact ⟨nx_cell hbc (by assumption), nx_step (by assumption) hbc⟩))
    (first
      | (go_at_call 26; go_split_ands; refine (joined_items l0 l1 A0 A1 n0 n1 c0 c1 _ (ra.out.on (by assumption)) (rb.out.on (by assumption)) (by omega)).mono ?_; rintro e w1 ⟨A3, c3, rfl, o3, hbc'⟩; rw [HNN.out] at o3; rw [HNN.out]; have r3 := Lib.hid (Rd.of_own o3); clear o3; have hbc := nx hbc'; clear hbc')
      | (go_at_call 13; go_split_ands; refine (Stable_any R A2 n2 c2 (l0 ++ l1) A3 n c3 _ (rr.out.on (by assumption)) (by refine Rd.on (r3.out) ?_; repeat (first | exact Below.refl _ _ | refine nx_step ?_ (by with_reducible assumption))) (by omega)).mono ?_; rintro e w2 ⟨A4, c4, rfl, o4, hbc'⟩; have r4 := Lib.hid (Rd.of_own o4); clear o4; have hbc := nx hbc'; clear hbc'))
  have b2 : Below W0.heap.size W0 w2 := by go_split_ands; assumption
  have e2 : w2.cell? ⟨w.heap.size, 0, none⟩ = some (.slice A2 n2 c2) := by go_split_ands; assumption
  have ra2 := Lib.hid (ra.out.on b2)
  have rb2 := Lib.hid (rb.out.on b2)
  have rr2 := Lib.hid (rr.out.on b2)
  have bb := below_step hb0 b2
  clear ra rb rr d2 b2 hb0
  rename_i hold1
  clear hold1
  go_wp2_with fail
  go_region_held3 (fun w' => w'.cell? ⟨w.heap.size, 0, none⟩ = some (.slice A2 n2 c2) ∧ Below w2.heap.size w2 w')
    (first | (exact ⟨e2, (Below.refl _ _).drew⟩) | (go_split_ands; exact ⟨nx_cell hbc (by assumption), nx_step (by assumption) hbc⟩))
    (first
      | (go_at_call 13; go_split_ands; ((with_reducible refine (Stable_any R A2 n2 c2 l0 A0 n0 c0 _ (rr2.out.on (by assumption)) (ra2.out.on (by assumption)) (by omega)).mono ?_); rintro e w3 ⟨A5, c5, rfl, o5, hbc'⟩); have r5 := Lib.hid (Rd.of_own o5); clear o5; have hbc := nx hbc'; clear hbc')
      | (go_at_call 13; go_split_ands; ((with_reducible refine (Stable_any R A2 n2 c2 l1 A1 n1 c1 _ (rr2.out.on (by assumption)) (rb2.out.on (by assumption)) (by omega)).mono ?_); rintro e W ⟨A6, c6, rfl, o6, hbc'⟩); have r6 := Lib.hid (Rd.of_own o6); clear o6; have r5' := Lib.hid (r5.out.on hbc'); have hbc := nx hbc'; clear hbc'))
  have b3 : Below w2.heap.size w2 W := by go_split_ands; assumption
  have d3 : W.cell? ⟨w.heap.size, 0, none⟩ = some (.slice A2 n2 c2) := by go_split_ands; assumption
  have rs := Lib.hid (r4.out.on b3)
  have rr' := Lib.hid (rr2.out.on b3)
  have hbW := below_step bb b3
  clear r4 rr2 ra2 rb2 e2 b3 bb r5
  rename_i hold2
  clear hold2
  have HP1 : Hid (∀ i, i < n0 → i + less R (stab (rJ R) l1) (it (stab (rJ R) l0) i).1 < n ∧ it (stab (rJ R) (l0 ++ l1)) (i + less R (stab (rJ R) l1) (it (stab (rJ R) l0) i).1) = it (stab (rJ R) l0) i) := fun i hi => by
    have := merged_it_left R l0 l1 i (by rw [HL0.out]; exact hi)
    rw [HL0.out, HL1.out, HNN.out] at this
    exact this
  have HP2 : Hid (∀ i, i < n1 → i + (less R (stab (rJ R) l0) (it (stab (rJ R) l1) i).1 + eqs R (stab (rJ R) l0) (it (stab (rJ R) l1) i).1) < n ∧ it (stab (rJ R) (l0 ++ l1)) (i + (less R (stab (rJ R) l0) (it (stab (rJ R) l1) i).1 + eqs R (stab (rJ R) l0) (it (stab (rJ R) l1) i).1)) = it (stab (rJ R) l1) i) := fun i hi => by
    have := merged_it_right R l0 l1 i (by rw [HL1.out]; exact hi)
    rw [HL0.out, HL1.out, HNN.out] at this
    exact this
  have HS1 : Hid (∀ x, Step (pFirst R (stab (rJ R) l1) x) n1 (less R (stab (rJ R) l1) x.1)) := fun x => by
    have := first_step (stab_srt (rJ R) l1) x
    rw [stab_len, HL1.out] at this
    exact this
  have HS2 : Hid (∀ x, Step (pPast R (stab (rJ R) l0) x) n0 (less R (stab (rJ R) l0) x.1 + eqs R (stab (rJ R) l0) x.1)) := fun x => by
    have := past_step (stab_srt (rJ R) l0) x
    rw [stab_len, HL0.out] at this
    exact this
  obtain ⟨ma, hma⟩ : ∃ m, m = stab (rJ R) l0 := ⟨_, rfl⟩
  obtain ⟨mb, hmb⟩ : ∃ m, m = stab (rJ R) l1 := ⟨_, rfl⟩
  obtain ⟨mm, hmm⟩ : ∃ m, m = stab (rJ R) (l0 ++ l1) := ⟨_, rfl⟩
  rw [← hma] at HP1 HP2 HS2 r5'
  rw [← hmb] at HP1 HP2 HS1 r6
  rw [← hmm] at HP1 HP2 rs
  clear hma hmb hmm
  go_wp2_with fail
  go_loopw [51] (fun s wr => ∃ i : Nat, i ≤ n0 ∧ s = .int .i64 i ∧ Below W.heap.size W wr) (fun s _ => n0 - (intOf s).toNat)
  case atStart => exact ⟨0, Nat.zero_le _, rfl, Below.refl _ _⟩
  case round =>
    obtain ⟨i, hi, rfl, hbel⟩ := hrel
    by_cases hlt : i < n0
    · obtain ⟨b, off, rfl, _, hc1, hc2⟩ := rdI_at (k := i) (r5'.out.on hbel) hlt
      have hp := HP1.out i hlt
      obtain ⟨x, hx⟩ : ∃ x, x = it ma i := ⟨_, rfl⟩
      rw [← hx] at hc1 hc2 hp
      clear hx
      have hst := Lib.hid (HS1.out x)
      obtain ⟨f, hf⟩ : ∃ f, f = less R mb x.1 := ⟨_, rfl⟩
      rw [← hf] at hp hst
      clear hf
      obtain ⟨p, hpe⟩ : ∃ p, p = i + f := ⟨_, rfl⟩
      rw [← hpe] at hp
      have hpn := hp.1
      have HX := Lib.hid hp.2
      clear hp
      have hw : (i : Int) + (f : Int) = (p : Int) := by omega
      have hbx := hbel.alloc hbel.size (.cells #[.int .i64 x.1, .int .i64 x.2] 27)
      have t2 := cell_on hbx d3
      have y0 : (wr.alloc (.cells #[.int .i64 x.1, .int .i64 x.2] 27)).cell? ⟨wr.heap.size, 0, none⟩ = some (.int .i64 x.1) := by simp [go_sem]
      have y1 : (wr.alloc (.cells #[.int .i64 x.1, .int .i64 x.2] 27)).cell? ⟨wr.heap.size, 1, none⟩ = some (.int .i64 x.2) := by simp [go_sem]
      have rq := Lib.hid (rr'.out.on hbx)
      have rt := Lib.hid (rs.out.on hbx)
      have ru := Lib.hid (r6.out.on hbx)
      clear hpe
      go_wp2_with fail
      generalize wr.alloc (.cells #[.int .i64 x.1, .int .i64 x.2] 27) = W2 at hbx t2 y0 y1 rq rt ru ⊢
      refine (SearchFirst_any R A2 n2 c2 mb A6 n1 c6 x _ rq.out ru.out (by omega)).mono ?_
      rintro e w3 ⟨r1, hcut, rfl, hb3⟩
      have hr1 : f = r1 := (hst.out.cut hcut).symm
      subst hr1
      clear hcut hst
      have z0 := cell_on hb3 y0
      have z1 := cell_on hb3 y1
      have hfin := below_step hbx hb3
      obtain ⟨bo, oo, rfl, _, g1, g2⟩ := rdI_at (k := p) (rt.out.on hb3) hpn
      rw [HX.out] at g1 g2
      have p0 : (0 : Int) ≤ (p : Int) := Int.natCast_nonneg _
      have p1 : (p : Int) < (n : Int) := by omega
      go_wp2_with fail
      have hne := fun w => item_ne x.1 x.2 w
      have hgu := fun w y z => item_guard y z x.1 x.2 w
      have hw1 : IntKind.i64.wrap ((n : Int) - 1) = (n : Int) - 1 := IntWalk.i64_in _ (by omega)
      go_region_held3 (fun w' => w'.cell? ⟨wr.heap.size, 0, none⟩ = some (.int .i64 x.1) ∧ w'.cell? ⟨wr.heap.size, 1, none⟩ = some (.int .i64 x.2) ∧ w'.cell? ⟨bo, oo + p * 2, none⟩ = some (.int .i64 x.1) ∧ w'.cell? ⟨bo, oo + p * 2 + 1, none⟩ = some (.int .i64 x.2) ∧ Below w3.heap.size w3 w')
        (first | (exact ⟨z0, z1, g1, g2, (Below.refl _ _).drew⟩) | (go_split_ands; exact ⟨by assumption, by assumption, by assumption, by assumption, by assumption⟩))
        (first
          | (go_at_call 28; refine (inside_yes _ _ _ (by omega) (by omega)).mono ?_; rintro e w4 ⟨rfl, rfl⟩))
      clear hne hgu hw1 hw
      have hend : Below W.heap.size W w3.drew := below_step hfin (by go_split_ands; assumption)
      go_wp2
      go_roundw
      case rel => exact ⟨i + 1, by omega, by go_num, hend⟩
      case measure => simp [intOf]; omega
    · obtain rfl : i = n0 := by omega
      have fd3 := cell_on hbel d3
      have frr' := Lib.hid (rr'.out.on hbel)
      have frs := Lib.hid (rs.out.on hbel)
      have r6f := Lib.hid (r6.out.on hbel)
      have r5f := Lib.hid (r5'.out.on hbel)
      have hbV := below_step hbW hbel
      clear hbel rr' rs r6 r5' d3 HP1 HS1 hw0
      obtain ⟨V, rfl⟩ : ∃ V : World, V = wr := ⟨_, rfl⟩
      go_wp2_with fail
      go_loopw [79] (fun s wr => ∃ i : Nat, i ≤ n1 ∧ s = .int .i64 i ∧ Below V.heap.size V wr) (fun s _ => n1 - (intOf s).toNat)
      case atStart => exact ⟨0, Nat.zero_le _, rfl, Below.refl _ _⟩
      case round =>
        obtain ⟨j, hj, rfl, hbel⟩ := hrel
        by_cases hlt : j < n1
        · obtain ⟨b, off, rfl, _, hc1, hc2⟩ := rdI_at (k := j) (r6f.out.on hbel) hlt
          have hp := HP2.out j hlt
          obtain ⟨x, hx⟩ : ∃ x, x = it mb j := ⟨_, rfl⟩
          rw [← hx] at hc1 hc2 hp
          clear hx
          have hst := Lib.hid (HS2.out x)
          obtain ⟨f, hf⟩ : ∃ f, f = less R ma x.1 + eqs R ma x.1 := ⟨_, rfl⟩
          rw [← hf] at hp hst
          clear hf
          obtain ⟨p, hpe⟩ : ∃ p, p = j + f := ⟨_, rfl⟩
          rw [← hpe] at hp
          have hpn := hp.1
          have HX := Lib.hid hp.2
          clear hp
          have hw : (j : Int) + (f : Int) = (p : Int) := by omega
          have hbx := hbel.alloc hbel.size (.cells #[.int .i64 x.1, .int .i64 x.2] 27)
          have t2 := cell_on hbx fd3
          have y0 : (wr.alloc (.cells #[.int .i64 x.1, .int .i64 x.2] 27)).cell? ⟨wr.heap.size, 0, none⟩ = some (.int .i64 x.1) := by simp [go_sem]
          have y1 : (wr.alloc (.cells #[.int .i64 x.1, .int .i64 x.2] 27)).cell? ⟨wr.heap.size, 1, none⟩ = some (.int .i64 x.2) := by simp [go_sem]
          have rq := Lib.hid (frr'.out.on hbx)
          have rt := Lib.hid (frs.out.on hbx)
          have ru := Lib.hid (r5f.out.on hbx)
          clear hpe
          go_wp2_with fail
          generalize wr.alloc (.cells #[.int .i64 x.1, .int .i64 x.2] 27) = W2 at hbx t2 y0 y1 rq rt ru ⊢
          refine (SearchPast_any R A2 n2 c2 ma A5 i c5 x _ rq.out ru.out (by omega)).mono ?_
          rintro e w3 ⟨r1, hcut, rfl, hb3⟩
          have hr1 : f = r1 := (hst.out.cut hcut).symm
          subst hr1
          clear hcut hst
          have z0 := cell_on hb3 y0
          have z1 := cell_on hb3 y1
          have hfin := below_step hbx hb3
          obtain ⟨bo, oo, rfl, _, g1, g2⟩ := rdI_at (k := p) (rt.out.on hb3) hpn
          rw [HX.out] at g1 g2
          have p0 : (0 : Int) ≤ (p : Int) := Int.natCast_nonneg _
          have p1 : (p : Int) < (n : Int) := by omega
          go_wp2_with fail
          have hne := fun w => item_ne x.1 x.2 w
          have hgu := fun w y z => item_guard y z x.1 x.2 w
          have hw1 : IntKind.i64.wrap ((n : Int) - 1) = (n : Int) - 1 := IntWalk.i64_in _ (by omega)
          go_region_held3 (fun w' => w'.cell? ⟨wr.heap.size, 0, none⟩ = some (.int .i64 x.1) ∧ w'.cell? ⟨wr.heap.size, 1, none⟩ = some (.int .i64 x.2) ∧ w'.cell? ⟨bo, oo + p * 2, none⟩ = some (.int .i64 x.1) ∧ w'.cell? ⟨bo, oo + p * 2 + 1, none⟩ = some (.int .i64 x.2) ∧ Below w3.heap.size w3 w')
            (first | (exact ⟨z0, z1, g1, g2, (Below.refl _ _).drew⟩) | (go_split_ands; exact ⟨by assumption, by assumption, by assumption, by assumption, by assumption⟩))
            (first
              | (go_at_call 28; refine (inside_yes _ _ _ (by omega) (by omega)).mono ?_; rintro e w4 ⟨rfl, rfl⟩))
          clear hne hgu hw1 hw
          have hend : Below V.heap.size V w3.drew := below_step hfin (by go_split_ands; assumption)
          go_wp2
          go_roundw
          case rel => exact ⟨j + 1, by omega, by go_num, hend⟩
          case measure => simp [intOf]; omega
        · obtain rfl : j = n1 := by omega
          go_wp2
          go_ret
          exact ⟨rfl, below_step hbV hbel⟩
end Go.Proofs.Ytdojnocmapkodaa

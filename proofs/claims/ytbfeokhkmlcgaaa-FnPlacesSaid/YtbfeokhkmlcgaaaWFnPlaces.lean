/- FnPlaces returns true: for every list and order. -/
import Derived.Test.YtbfeokhkmlcgaaaImplStable
import Derived.Test.YtbfeokhkmlcgaaaInside
import Derived.Test.YtbfeokhkmlcgaaaLFirst
import Derived.Test.YtbfeokhkmlcgaaaEquals
import Derived.Test.YtbfeokhkmlcgaaaPlaces
import Derived.Test.YtbfeokhkmlcgaaaPut
import Derived.Test.YtbfeokhkmlcgaaaSame
import Derived.Test.YtbfeokhkmlcgaaaOpen
import Derived.Deep.RegionHeld3
import Derived.IntWalk
namespace Go.Proofs.Ytbfeokhkmlcgaaa
open Go.RowKit
attribute [local go_sem ↓] Go.wp_at_zero Go.wp_at_succ

theorem less_perm (R : List Int) (l : List (Int × Int)) (k : Int) : less R (stab (rJ R) l) k = less R l k := (stab_perm (rJ R) l).countP_eq _
/-- The item at i stands behind those that are less, and behind those equal to it that came earlier. -/
theorem place_it (R : List Int) (l : List (Int × Int)) (i : Nat) (hi : i < l.length) :
    less R (stab (rJ R) l) (it l i).1 + eqs R (l.take i) (it l i).1 < l.length ∧ it (stab (rJ R) l) (less R (stab (rJ R) l) (it l i).1 + eqs R (l.take i) (it l i).1) = it l i := by
  have h := stab_place (rJ R) l i hi
  rw [less_perm, it_lt hi]
  have e1 : less R l (l[i]).1 = cLt (rJ R) (rJ R l[i]) l := rfl
  have e2 : eqs R (l.take i) (l[i]).1 = cEq (rJ R) (rJ R l[i]) (l.take i) := rfl
  rw [e1, e2]
  obtain ⟨h1, h2⟩ := List.getElem?_eq_some_iff.1 h
  refine ⟨by rw [stab_len] at h1; exact h1, ?_⟩
  rw [it_lt h1, h2]

set_option linter.unusedSimpArgs false in
set_option maxHeartbeats 4000000 in
theorem wFnPlaces (A0 : Option Addr) (n0 c0 : Nat) (l0 : List (Int × Int)) (A2 : Option Addr) (n2 c2 : Nat) (R : List Int) (w : World)
    (r0 : Rd w w.heap.size 2 A0 n0 (cI l0)) (_z0 : ∀ y ∈ l0, InI y.1 ∧ InI y.2) (le0 : n0 ≤ c0) (b0 : c0 * 16 ≤ 140737488351232)
    (r2 : Rd w w.heap.size 1 A2 n2 (cZ R)) (_z2 : ∀ y ∈ R, InI y) (_le2 : n2 ≤ c2) (_b2 : c2 * 8 ≤ 140737488351232) :
    Calls Try.prog 13 #[.slice A0 n0 c0, .agg #[.slice A2 n2 c2]] w fun e w' => e = .returned (.bool true) ∧ Below w.heap.size w w' := by
  clear _z0 _z2 _le2 _b2
  have hn : n0 * 16 ≤ 140737488351232 := by omega
  have HL := Lib.hid (rdI_len r0)
  have hb0 := below_alloc1 w (.cells #[.slice A2 n2 c2] 25)
  have d2 : (w.alloc (.cells #[.slice A2 n2 c2] 25)).cell? ⟨w.heap.size, 0, none⟩ = some (.slice A2 n2 c2) := by simp [go_sem]
  have ra := Lib.hid (r0.on hb0)
  have rr := Lib.hid (r2.on hb0)
  clear r0 r2
  go_enter Try.func13, Try.ntmps13
  go_wp2_with fail
  generalize w.alloc (.cells #[.slice A2 n2 c2] 25) = W0 at *
  refine (Stable_any R A2 n2 c2 l0 A0 n0 c0 W0 rr.out ra.out (by omega)).mono ?_
  rintro e W ⟨A, c, rfl, o1, b1⟩
  have rs := Lib.hid (Rd.of_own o1)
  have d3 := cell_on b1 d2
  have ra' := Lib.hid (ra.out.on b1)
  have rr' := Lib.hid (rr.out.on b1)
  have hbW := below_step hb0 b1
  clear o1 ra rr d2 b1 hb0
  have HP : Hid (∀ i, i < n0 → less R (stab (rJ R) l0) (it l0 i).1 + eqs R (l0.take i) (it l0 i).1 < n0 ∧ it (stab (rJ R) l0) (less R (stab (rJ R) l0) (it l0 i).1 + eqs R (l0.take i) (it l0 i).1) = it l0 i) := fun i hi => by
    have := place_it R l0 i (by rw [HL.out]; exact hi)
    rw [HL.out] at this
    exact this
  have HS : Hid (∀ x, Step (pFirst R (stab (rJ R) l0) x) n0 (less R (stab (rJ R) l0) x.1)) := fun x => by
    have := first_step (stab_srt (rJ R) l0) x
    rw [stab_len, HL.out] at this
    exact this
  obtain ⟨m, hm⟩ : ∃ m, m = stab (rJ R) l0 := ⟨_, rfl⟩
  rw [← hm] at rs HP HS
  clear hm
  go_wp2_with fail
  go_loopw [19] (fun s wr => ∃ i : Nat, i ≤ n0 ∧ s = .int .i64 i ∧ Below W.heap.size W wr) (fun s _ => n0 - (intOf s).toNat)
  case atStart => exact ⟨0, Nat.zero_le _, rfl, Below.refl _ _⟩
  case round =>
    obtain ⟨i, hi, rfl, hbel⟩ := hrel
    by_cases hlt : i < n0
    · obtain ⟨b, off, rfl, _, hc1, hc2⟩ := rdI_at (k := i) (ra'.out.on hbel) hlt
      have hp := HP.out i hlt
      obtain ⟨x, hx⟩ : ∃ x, x = it l0 i := ⟨_, rfl⟩
      rw [← hx] at hc1 hc2 hp
      clear hx
      have hst := Lib.hid (HS.out x)
      obtain ⟨f, hf⟩ : ∃ f, f = less R m x.1 := ⟨_, rfl⟩
      obtain ⟨q, hq⟩ : ∃ q, q = eqs R (l0.take i) x.1 := ⟨_, rfl⟩
      rw [← hf] at hp hst
      rw [← hq] at hp
      have HQ := Lib.hid hq.symm
      clear hf hq
      obtain ⟨p, hpe⟩ : ∃ p, p = f + q := ⟨_, rfl⟩
      rw [← hpe] at hp
      have hpn := hp.1
      have HX := Lib.hid hp.2
      clear hp
      have hbx := hbel.alloc hbel.size (.cells #[.int .i64 x.1, .int .i64 x.2] 28)
      have t2 := cell_on hbx d3
      have y0 : (wr.alloc (.cells #[.int .i64 x.1, .int .i64 x.2] 28)).cell? ⟨wr.heap.size, 0, none⟩ = some (.int .i64 x.1) := by simp [go_sem]
      have y1 : (wr.alloc (.cells #[.int .i64 x.1, .int .i64 x.2] 28)).cell? ⟨wr.heap.size, 1, none⟩ = some (.int .i64 x.2) := by simp [go_sem]
      have rq := Lib.hid (rr'.out.on hbx)
      have rt := Lib.hid (rs.out.on hbx)
      have HT : Hid (∀ Wx, Below (wr.alloc (.cells #[.int .i64 x.1, .int .i64 x.2] 28)).heap.size (wr.alloc (.cells #[.int .i64 x.1, .int .i64 x.2] 28)) Wx → Rd Wx Wx.heap.size 2 (some ⟨b, off, none⟩) i (cI (l0.take i))) := fun Wx hb => by rw [← cI_take]; exact ((ra'.out.on hbx).on hb).take_ (by omega)
      have i0 : (0 : Int) ≤ (i : Int) := Int.natCast_nonneg _
      have i1 : (i : Int) ≤ (c0 : Int) := by omega
      go_wp2_with fail
      generalize wr.alloc (.cells #[.int .i64 x.1, .int .i64 x.2] 28) = W2 at hbx t2 y0 y1 rq rt HT ⊢
      have hw : IntKind.i64.wrap ((f : Int) + (q : Int)) = (p : Int) := by rw [IntWalk.i64_in _ (by omega)]; omega
      clear hpe
      go_region_held3 (fun w' => w'.cell? ⟨w.heap.size, 0, none⟩ = some (.slice A2 n2 c2) ∧ w'.cell? ⟨wr.heap.size, 0, none⟩ = some (.int .i64 x.1) ∧ w'.cell? ⟨wr.heap.size, 1, none⟩ = some (.int .i64 x.2) ∧ Below W2.heap.size W2 w')
        (first | (exact ⟨t2, y0, y1, (Below.refl _ _).drew⟩) | (go_split_ands; exact ⟨nx_cell hbc (by assumption), nx_cell hbc (by assumption), nx_cell hbc (by assumption), nx_step (by assumption) hbc⟩))
        (first
          | (go_at_call 22; go_split_ands; refine (SearchFirst_any R A2 n2 c2 m A n0 c x _ (rq.out.on (by assumption)) (rt.out.on (by assumption)) (by omega)).mono ?_; rintro e w1 ⟨r1, hcut, rfl, hbc'⟩; have hr1 : f = r1 := (hst.out.cut hcut).symm; subst hr1; clear hcut; have hbc := nx hbc'; clear hbc')
          | (go_at_call 29; go_split_ands; refine (theirs_any (l0.take i) (some ⟨b, off, none⟩) i _ _ (HT.out _ (by assumption)) (by omega)).mono ?_; rintro e w2 ⟨A6, c6, rfl, o6, hbc'⟩; have ru := Lib.hid (Rd.of_own o6); clear o6; have hbc := nx hbc'; clear hbc')
          | (go_at_call 30; go_split_ands; refine (Equal_any (l0.take i) A6 i c6 x.1 R A2 n2 c2 _ (by refine Rd.on (ru.out) ?_; repeat (first | exact Below.refl _ _ | refine nx_step ?_ (by with_reducible assumption))) (rq.out.on (by assumption)) (by omega)).mono ?_; rw [HQ.out]; rintro e w3 ⟨rfl, hbc'⟩; have hbc := nx hbc'; clear hbc'))
      clear hw
      have hfin : Below W2.heap.size W2 w3 := by go_split_ands; assumption
      have z2 : w3.cell? ⟨w.heap.size, 0, none⟩ = some (.slice A2 n2 c2) := by go_split_ands; assumption
      have z0 : w3.cell? ⟨wr.heap.size, 0, none⟩ = some (.int .i64 x.1) := by go_split_ands; assumption
      have z1 : w3.cell? ⟨wr.heap.size, 1, none⟩ = some (.int .i64 x.2) := by go_split_ands; assumption
      obtain ⟨bo, oo, rfl, _, g1, g2⟩ := rdI_at (k := p) (rt.out.on hfin) hpn
      rw [HX.out] at g1 g2
      have p0 : (0 : Int) ≤ (p : Int) := Int.natCast_nonneg _
      have p1 : (p : Int) < (n0 : Int) := by omega
      go_wp2_with fail
      have hne := fun w => item_ne x.1 x.2 w
      have hgu := fun w y z => item_guard y z x.1 x.2 w
      have hw1 : IntKind.i64.wrap ((n0 : Int) - 1) = (n0 : Int) - 1 := IntWalk.i64_in _ (by omega)
      go_region_held3 (fun w' => w'.cell? ⟨wr.heap.size, 0, none⟩ = some (.int .i64 x.1) ∧ w'.cell? ⟨wr.heap.size, 1, none⟩ = some (.int .i64 x.2) ∧ w'.cell? ⟨bo, oo + p * 2, none⟩ = some (.int .i64 x.1) ∧ w'.cell? ⟨bo, oo + p * 2 + 1, none⟩ = some (.int .i64 x.2) ∧ Below w3.heap.size w3 w')
        (first | (exact ⟨z0, z1, g1, g2, (Below.refl _ _).drew⟩) | (go_split_ands; exact ⟨by assumption, by assumption, by assumption, by assumption, by assumption⟩))
        (first
          | (go_at_call 15; refine (inside_yes _ _ _ (by omega) (by omega)).mono ?_; rintro e w4 ⟨rfl, rfl⟩))
      clear hne hgu hw1
      have hend : Below W.heap.size W w3.drew := below_step (below_step hbx hfin) (by go_split_ands; assumption)
      go_wp2
      go_roundw
      case rel => exact ⟨i + 1, by omega, by go_num, hend⟩
      case measure => simp [intOf]; omega
    · obtain rfl : i = n0 := by omega
      go_wp2
      go_ret
      exact ⟨rfl, below_step hbW hbel⟩
end Go.Proofs.Ytbfeokhkmlcgaaa

/- FnArgumentsStay returns true: for every list, item, order and script. -/
import Derived.Test.YtbfeokhkmlcgaaaStableSteps
import Derived.Test.YtbfeokhkmlcgaaaJoinedZ
import Derived.Test.YtbfeokhkmlcgaaaLFirst
import Derived.Test.YtbfeokhkmlcgaaaLPast
import Derived.Test.YtbfeokhkmlcgaaaLFind
import Derived.Test.YtbfeokhkmlcgaaaCountsPlain
import Derived.Test.YtbfeokhkmlcgaaaSame
import Derived.Test.YtbfeokhkmlcgaaaSameInts
import Derived.Test.YtbfeokhkmlcgaaaTwo
import Derived.Test.YtbfeokhkmlcgaaaOpenMore
import Derived.Deep.RegionHeld3
namespace Go.Proofs.Ytbfeokhkmlcgaaa
open Go.RowKit
attribute [local go_sem ↓] Go.wp_at_zero Go.wp_at_succ
theorem apt_freshS {W w' : World} {base e size e2 size2 n m : Nat} {u v : Value} {xs ys : List Value} (hu : W.ownsRow base e size u n xs) (hv : w'.ownsRow W.heap.size e2 size2 v m ys) : Apt v u := by
  cases h : v.ownBlock with
  | none => exact .inl h
  | some k =>
    refine .inr fun e => ?_
    rw [h] at e
    have h1 := (hv.lt k h).1
    have h2 := (hu.lt k e.symm).2
    omega
theorem own_some {w : World} {base e size n c : Nat} {A : Option Addr} {xs : List Value} (h : w.ownsRow base e size (.slice A n c) n xs) (hn : 0 < n) : ∃ g, A = some ⟨g, 0, none⟩ := by
  rcases h.2 with ⟨h, h0⟩ | ⟨g, cap, cur, hv, _⟩
  · exfalso; omega
  · injection hv with hA; exact ⟨g, hA⟩
theorem own_cell {w : World} {base e n c g j : Nat} {xs : List Value} (h : w.ownsRow base e 2 (.slice (some ⟨g, 0, none⟩) n c) n xs) (hj : j < n * 2) : ∃ u, w.cell? ⟨g, j, none⟩ = some u := by
  rw [h.cellAt _ hj]
  exact ⟨xs[j]'(by rw [h.1]; exact hj), List.getElem?_eq_getElem _⟩

set_option linter.unusedSimpArgs false in
set_option maxRecDepth 100000 in
set_option maxHeartbeats 6000000 in
theorem wFnArgumentsStay (A0 : Option Addr) (n0 c0 : Nat) (l0 : List (Int × Int)) (x1 : Int × Int) (A2 : Option Addr) (n2 c2 : Nat) (R : List Int) (A3 : Option Addr) (n3 c3 : Nat) (ts : List Tab) (w : World)
    (r0 : Rd w w.heap.size 2 A0 n0 (cI l0)) (_z0 : ∀ y ∈ l0, InI y.1 ∧ InI y.2) (le0 : n0 ≤ c0) (b0 : c0 * 16 ≤ 140737488351232) (_i1 : InI x1.1 ∧ InI x1.2)
    (r2 : Rd w w.heap.size 1 A2 n2 (cZ R)) (_z2 : ∀ y ∈ R, InI y) (le2 : n2 ≤ c2) (b2 : c2 * 8 ≤ 140737488351232)
    (r3 : RdS w w.heap.size A3 n3 ts) (_z3 : ∀ y ∈ ts, ∀ z ∈ y.r, InI z) (le3 : n3 ≤ c3) (b3 : c3 * 24 ≤ 140737488351232) :
    Calls Try.prog 5 #[.slice A0 n0 c0, .agg #[.int .i64 x1.1, .int .i64 x1.2], .agg #[.slice A2 n2 c2], .slice A3 n3 c3] w fun e w' => e = .returned (.bool true) ∧ Below w.heap.size w w' := by
  clear _z0 _i1 _z2 _z3
  have hn : n0 * 16 ≤ 140737488351232 := by omega
  have hn2 : n2 * 8 ≤ 140737488351232 := by omega
  have hn3 : n3 * 24 ≤ 140737488351232 := by omega
  have HL := Lib.hid (rdI_len r0)
  have hb0 := below_alloc2 w (.cells #[.int .i64 x1.1, .int .i64 x1.2] 28) (.cells #[.slice A2 n2 c2] 25)
  have d0 : ((w.alloc (.cells #[.int .i64 x1.1, .int .i64 x1.2] 28)).alloc (.cells #[.slice A2 n2 c2] 25)).cell? ⟨w.heap.size, 0, none⟩ = some (.int .i64 x1.1) := by simp [go_sem]
  have d1 : ((w.alloc (.cells #[.int .i64 x1.1, .int .i64 x1.2] 28)).alloc (.cells #[.slice A2 n2 c2] 25)).cell? ⟨w.heap.size, 1, none⟩ = some (.int .i64 x1.2) := by simp [go_sem]
  have d2 : ((w.alloc (.cells #[.int .i64 x1.1, .int .i64 x1.2] 28)).alloc (.cells #[.slice A2 n2 c2] 25)).cell? ⟨w.heap.size + 1, 0, none⟩ = some (.slice A2 n2 c2) := by simp [go_sem]
  have ra := Lib.hid (r0.on hb0)
  have rr := Lib.hid (r2.on hb0)
  have rt := Lib.hid (r3.on hb0)
  clear r0 r2 r3 le0 b0 le2 b2 le3 b3
  go_enter Try.func5, Try.ntmps5
  go_wp2_with fail
  generalize (w.alloc (.cells #[.int .i64 x1.1, .int .i64 x1.2] 28)).alloc (.cells #[.slice A2 n2 c2] 25) = W at *
  go_region_held3 (fun w' => w'.cell? ⟨w.heap.size + 1, 0, none⟩ = some (.slice A2 n2 c2) ∧ Below W.heap.size W w')
    (first | (exact ⟨d2, (Below.refl _ _).drew⟩) | (go_split_ands; exact ⟨nx_cell hbc (by assumption), nx_step (by assumption) hbc⟩))
    (first
      | (go_at_call 19; go_split_ands; refine (joined_items l0 [] A0 none n0 0 _ _ _ (ra.out.on (by assumption)) Rd.none_ (by omega)).mono ?_; rintro e w1 ⟨A4, c4, rfl, o4, hbc'⟩; rw [Nat.add_zero, List.append_nil] at o4; rw [Nat.add_zero]; have r4 := Lib.hid (Rd.of_own o4); clear o4; have hbc := nx hbc'; clear hbc')
      | (go_at_call 23; go_split_ands; refine (joined_ints R [] A2 none n2 0 _ _ _ (rr.out.on (by assumption)) Rd.none_ (by omega)).mono ?_; rintro e w2 ⟨A5, c5, rfl, o5, hbc'⟩; rw [Nat.add_zero, List.append_nil] at o5; rw [Nat.add_zero]; have r5 := Lib.hid (Rd.of_own o5); clear o5; have r4' := Lib.hid (r4.out.on hbc'); have hbc := nx hbc'; clear hbc'))
  have bl2 : Below W.heap.size W w2 := by go_split_ands; assumption
  have e2 : w2.cell? ⟨w.heap.size + 1, 0, none⟩ = some (.slice A2 n2 c2) := by go_split_ands; assumption
  have e0 := cell_on bl2 d0
  have e1 := cell_on bl2 d1
  have ra2 := Lib.hid (ra.out.on bl2)
  have rr2 := Lib.hid (rr.out.on bl2)
  have rt2 := Lib.hid (rt.out.on bl2)
  have bw := below_step hb0 bl2
  clear d0 d1 d2 ra rr rt bl2 hb0 r4
  rename_i hold
  clear hold
  go_wp2_with (first
    | (go_at_call 21; refine (Stable_any R A2 n2 c2 l0 A0 n0 c0 _ rr2.out ra2.out (by omega)).mono ?_; rintro e w3 ⟨A6, c6, rfl, o6, hb3⟩; have O6 := Lib.hid o6; clear o6; have f2 := cell_on hb3 e2; have f0 := cell_on hb3 e0; have f1 := cell_on hb3 e1)
    | (go_at_call 24; refine (StableSteps_any l0 A0 n0 c0 ts A3 n3 c3 _ (ra2.out.on hb3) (rt2.out.on hb3) (by omega) (by omega)).mono ?_; rintro e w4 ⟨A7, c7, rfl, o7, hb4⟩; have O7 := Lib.hid o7; clear o7)
    | fail)
  have g2 := cell_on hb4 f2
  have g0 := cell_on hb4 f0
  have g1 := cell_on hb4 f1
  have b4 := below_step hb3 hb4
  have ap := Lib.hid (apt_freshS O6.out O7.out)
  have O6' := Lib.hid (own_on O6.out hb4)
  have O7' := Lib.hid (own_base (base' := w2.heap.size) O7.out hb3.size)
  have rs := Lib.hid (Rd.of_own O6'.out)
  have rr4 := Lib.hid (rr2.out.on b4)
  clear O6 O7 f2 f0 f1 e0 e1
  obtain ⟨m, hm⟩ : ∃ m, m = stab (rJ R) l0 := ⟨_, rfl⟩
  have hsr : Srt (rI R) m := by rw [hm]; exact stab_srt (rJ R) l0
  have hsl : m.length = n0 := by rw [hm, stab_len]; exact HL.out
  rw [← hm] at rs
  have HS1 := Lib.hid (first_step hsr x1)
  have HS2 := Lib.hid (past_step hsr x1)
  rw [hsl] at HS1 HS2
  clear hsr hsl hm
  obtain ⟨f, hf⟩ : ∃ f, f = less R m x1.1 := ⟨_, rfl⟩
  obtain ⟨q, hq⟩ : ∃ q, q = eqs R m x1.1 := ⟨_, rfl⟩
  rw [← hf] at HS1 HS2
  rw [← hq] at HS2
  clear hf hq
  have hfn := HS1.out.1
  have hpn := HS2.out.1
  obtain ⟨p, hp⟩ : ∃ p, p = f + q := ⟨_, rfl⟩
  rw [← hp] at HS2 hpn
  have hfp : f ≤ p := by omega
  have hfp1 : decide (p < f) = false := by simp; omega
  have hfp2 : decide ((p : Int) < (f : Int)) = false := by simp; omega
  have hff : ((f : Int) != (f : Int)) = false := by simp
  clear hp
  go_region_held3 (fun w' => w'.cell? ⟨w.heap.size, 0, none⟩ = some (.int .i64 x1.1) ∧ w'.cell? ⟨w.heap.size, 1, none⟩ = some (.int .i64 x1.2) ∧ w'.cell? ⟨w.heap.size + 1, 0, none⟩ = some (.slice A2 n2 c2) ∧ Below w4.heap.size w4 w')
    (first | (exact ⟨g0, g1, g2, (Below.refl _ _).drew⟩) | (go_split_ands; exact ⟨nx_cell hbc (by assumption), nx_cell hbc (by assumption), nx_cell hbc (by assumption), nx_step (by assumption) hbc⟩))
    (first
      | (go_at_call 22; go_split_ands; refine (SearchFirst_any R A2 n2 c2 m A6 n0 c6 x1 _ (rr4.out.on (by assumption)) (rs.out.on (by assumption)) (by omega)).mono ?_; rintro e w5 ⟨r1, hcut, rfl, hbc'⟩; have hr1 : f = r1 := (HS1.out.cut hcut).symm; subst hr1; clear hcut; have hbc := nx hbc'; clear hbc')
      | (go_at_call 14; go_split_ands; refine (SearchPast_any R A2 n2 c2 m A6 n0 c6 x1 _ (rr4.out.on (by assumption)) (rs.out.on (by assumption)) (by omega)).mono ?_; rintro e w6 ⟨r2, hcut, rfl, hbc'⟩; have hr2 : p = r2 := (HS2.out.cut hcut).symm; subst hr2; clear hcut; have hbc := nx hbc'; clear hbc'))
  have bl6 : Below w4.heap.size w4 w6 := by go_split_ands; assumption
  have k0 : w6.cell? ⟨w.heap.size, 0, none⟩ = some (.int .i64 x1.1) := by go_split_ands; assumption
  have k1 : w6.cell? ⟨w.heap.size, 1, none⟩ = some (.int .i64 x1.2) := by go_split_ands; assumption
  have k2 : w6.cell? ⟨w.heap.size + 1, 0, none⟩ = some (.slice A2 n2 c2) := by go_split_ands; assumption
  clear g0 g1 g2
  rename_i hold2
  clear hold2
  go_wp2_with fail
  refine (FindItem_any R A2 n2 c2 m A6 n0 c6 x1 _ (rr4.out.on bl6) (rs.out.on bl6) (by omega)).mono ?_
  rintro e w7 ⟨r, hcut, rfl, hb7⟩
  have hr : f = r := (HS1.out.cut (hcut.congr fun i _ => item_np R m x1 i)).symm
  subst hr
  clear hcut
  have b7 := below_step bl6 hb7
  have O6f := Lib.hid (own_on O6'.out b7)
  have O7f := Lib.hid (own_on O7'.out b7)
  have k2' := cell_on hb7 k2
  have bw7 := below_step b4 b7
  clear O6' O7' rs rr4 k0 k1 k2 bl6 hb7 b7 b4 hb3 hb4
  generalize fnd (cItem R m x1) n0 f = fb
  go_wp2_with fail
  have E2 := Lib.hid e2
  clear e2 k2'
  go_loopw [68] (fun s wr => ∃ (i : Nat) (xs ys : List Value), i ≤ n0 ∧ s = .int .i64 i ∧ wr.ownsRow w2.heap.size 28 2 (.slice A6 n0 c6) n0 xs ∧ wr.ownsRow w2.heap.size 28 2 (.slice A7 n0 c7) n0 ys ∧ Below w2.heap.size w2 wr) (fun s _ => n0 - (intOf s).toNat)
  case atStart => exact ⟨0, _, _, Nat.zero_le _, rfl, O6f.out, O7f.out, bw7⟩
  case round =>
    obtain ⟨i, xs, ys, hi, rfl, ox, oy, hbel⟩ := hrel
    by_cases hlt : i < n0
    · obtain ⟨g6, rfl⟩ := own_some ox (by omega)
      obtain ⟨g7, rfl⟩ := own_some oy (by omega)
      obtain ⟨u6, x6⟩ := own_cell ox (j := i * 2 + 1) (by omega)
      have f6 := ox.frozenAt (i * 2 + 1)
      have hg6 := (ox.lt g6 rfl).1
      have hg7 := (oy.lt g7 rfl).1
      obtain ⟨s6, gr6⟩ := ox.stored (i * 2 + 1) (.int .i64 777)
      have oy1 := oy.kept gr6 ap.out
      obtain ⟨u7, x7⟩ := own_cell oy1 (j := i * 2 + 1) (by omega)
      have f7 := oy1.frozenAt (i * 2 + 1)
      obtain ⟨s7, gr7⟩ := oy1.stored (i * 2 + 1) (.int .i64 777)
      have s6' := s6.kept gr7 ap.out.symm
      have b2 := (hbel.setCell (p := ⟨g6, i * 2 + 1, none⟩) hg6 (.int .i64 777)).setCell (p := ⟨g7, i * 2 + 1, none⟩) hg7 (.int .i64 777)
      have i0 : (0 : Int) ≤ (i : Int) := Int.natCast_nonneg _
      have i1 : (i : Int) < (n0 : Int) := by omega
      clear s6 gr6 oy1 gr7 ox oy
      go_wp2
      go_roundw
      case rel => exact ⟨i + 1, _, _, by omega, by go_num, s6', s7, b2⟩
      case measure => simp [intOf]; omega
    · obtain rfl : i = n0 := by omega
      have e9 := cell_on hbel E2.out
      clear ox oy
      go_wp2_with (first
        | (go_at_call 20; refine (same_items l0 A0 A4 i c0 c4 _ (ra2.out.on hbel) (r4'.out.on hbel) (by omega)).mono ?_; rintro e w8 ⟨rfl, hb8⟩; have e10 := cell_on hb8 e9)
        | (go_at_call 25; refine (same_ints R A2 A5 n2 c2 c5 _ ((rr2.out.on hbel).on hb8) ((r5.out.on hbel).on hb8) (by omega)).mono ?_; rintro e w9 ⟨rfl, hb9⟩))
      go_ret
      exact ⟨rfl, below_step bw (below_step (below_step hbel hb8) hb9)⟩
end Go.Proofs.Ytbfeokhkmlcgaaa

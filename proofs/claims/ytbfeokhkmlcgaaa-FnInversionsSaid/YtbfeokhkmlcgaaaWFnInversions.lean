/- FnInversions returns true: for every list and order. -/
import Derived.Test.YtbfeokhkmlcgaaaImplStable
import Derived.Test.YtbfeokhkmlcgaaaInside
import Derived.Test.YtbfeokhkmlcgaaaLPast
import Derived.Test.YtbfeokhkmlcgaaaInsPlain
import Derived.Test.YtbfeokhkmlcgaaaPut
import Derived.Test.YtbfeokhkmlcgaaaInvers
import Derived.Deep.RegionHeld3
import Derived.Test.YtbfeokhkmlcgaaaSame
import Derived.Test.YtbfeokhkmlcgaaaOpen
namespace Go.Proofs.Ytbfeokhkmlcgaaa
open Go.RowKit
attribute [local go_sem ↓] Go.wp_at_zero Go.wp_at_succ

set_option maxHeartbeats 8000000 in
theorem wFnInversions (A0 : Option Addr) (n0 c0 : Nat) (l0 : List (Int × Int)) (A2 : Option Addr) (n2 c2 : Nat) (R : List Int) (w : World)
    (r0 : Rd w w.heap.size 2 A0 n0 (cI l0)) (_z0 : ∀ y ∈ l0, InI y.1 ∧ InI y.2) (le0 : n0 ≤ c0) (b0 : c0 * 16 ≤ 140737488351232)
    (r2 : Rd w w.heap.size 1 A2 n2 (cZ R)) (_z2 : ∀ y ∈ R, InI y) (_le2 : n2 ≤ c2) (_b2 : c2 * 8 ≤ 140737488351232) :
    Calls Try.prog 12 #[.slice A0 n0 c0, .agg #[.slice A2 n2 c2]] w fun e w' => e = .returned (.bool true) ∧ Below w.heap.size w w' := by
  clear _z0 _z2 _le2 _b2
  have hn : n0 * 16 ≤ 140737488351232 := by omega
  have HL := Lib.hid (rdI_len r0)
  have hb0 := below_alloc1 w (.cells #[.slice A2 n2 c2] 25)
  have d2 : (w.alloc (.cells #[.slice A2 n2 c2] 25)).cell? ⟨w.heap.size, 0, none⟩ = some (.slice A2 n2 c2) := by simp [go_sem]
  have ra := Lib.hid (r0.on hb0)
  have rr := Lib.hid (r2.on hb0)
  clear r0 r2 le0 b0
  go_enter Try.func12, Try.ntmps12
  go_wp2
  generalize w.alloc (.cells #[.slice A2 n2 c2] 25) = W at *
  go_loopw [5, 6, 12] (fun v q s wr => ∃ (i : Nat) (A : Option Addr) (c : Nat), i ≤ n0 ∧ s = .int .i64 i ∧ v = .slice A i c ∧ q = .int .i64 (wrap64 (invTo R l0 i)) ∧ wr.ownsRow W.heap.size 28 2 (.slice A i c) i (cI (stab (rJ R) (l0.take i))) ∧ Below W.heap.size W wr) (fun _ _ s _ => n0 - (intOf s).toNat)
  case atStart => exact ⟨0, none, 0, Nat.zero_le _, rfl, rfl, by simp [invTo, wrap64], by simpa [cI, stab] using own_nil _ _ _ _, Below.refl _ _⟩
  case round =>
    obtain ⟨i, A, c, hi, rfl, rfl, rfl, hown, hbel⟩ := hrel
    have hic := own_le hown
    by_cases hlt : i < n0
    · obtain ⟨b, off, rfl, _, hc1, hc2⟩ := rdI_at (k := i) (ra.out.on hbel) hlt
      have HT : Hid (l0.take (i + 1) = l0.take i ++ [it l0 i]) := it_snoc l0 i (by rw [HL.out]; exact hlt)
      have hsl : (stab (rJ R) (l0.take i)).length = i := by rw [stab_len, List.length_take, HL.out]; omega
      have HI : Hid (invTo R l0 (i + 1) = invTo R l0 i + more R (l0.take i) (it l0 i).1) := rfl
      obtain ⟨x, hx⟩ : ∃ x, x = it l0 i := ⟨_, rfl⟩
      rw [← hx] at hc1 hc2 HT HI
      clear hx
      have hst := past_step (stab_srt (rJ R) (l0.take i)) x
      rw [hsl] at hst
      have HS := Lib.hid hst
      clear hst
      have hbx := hbel.alloc hbel.size (.cells #[.int .i64 x.1, .int .i64 x.2] 28)
      have t2 := cell_on hbx d2
      have y0 : (wr.alloc (.cells #[.int .i64 x.1, .int .i64 x.2] 28)).cell? ⟨wr.heap.size, 0, none⟩ = some (.int .i64 x.1) := by simp [go_sem]
      have y1 : (wr.alloc (.cells #[.int .i64 x.1, .int .i64 x.2] 28)).cell? ⟨wr.heap.size, 1, none⟩ = some (.int .i64 x.2) := by simp [go_sem]
      have rq := Lib.hid (rr.out.on hbx)
      have ro := Lib.hid (Rd.of_own (hown.alloc (.cells #[.int .i64 x.1, .int .i64 x.2] 28)))
      obtain ⟨m, hm⟩ : ∃ m, m = stab (rJ R) (l0.take i) := ⟨_, rfl⟩
      rw [← hm] at ro HS
      have HM := Lib.hid hm
      have HML : Hid (m.length = i) := by unfold Hid; rw [hm]; exact hsl
      clear hm hsl hown
      go_wp2_with fail
      generalize wr.alloc (.cells #[.int .i64 x.1, .int .i64 x.2] 28) = W2 at hbx t2 y0 y1 rq ro ⊢
      refine (SearchPast_any R A2 n2 c2 m A i c x _ rq.out ro.out (by omega)).mono ?_
      rintro e w3 ⟨r, hcut, rfl, hb3⟩
      have HR := Lib.hid (HS.out.cut hcut)
      have hri : r ≤ i := hcut.1
      have HD : Hid ((i : Int) - (r : Int) = (more R (l0.take i) x.1 : Nat)) := by
        unfold Hid
        have h1 := less_eqs_more R m x.1
        rw [HML.out] at h1
        have h2 : more R m x.1 = more R (l0.take i) x.1 := by rw [HM.out]; exact more_stab R _ _ _
        have h3 := HR.out
        omega
      have HS2 : Hid (Step (pPast R m x) m.length r) := by unfold Hid; rw [HML.out, HR.out]; exact HS.out
      clear hcut
      have u0 := cell_on hb3 y0
      have u1 := cell_on hb3 y1
      have ro3 := Lib.hid (ro.out.on hb3)
      have HPI : Hid (m.take r ++ x :: m.drop r = stab (rJ R) (l0.take (i + 1))) := by
        unfold Hid
        have := past_ins R (l0.take i) x r (by rw [← HM.out]; exact HS2.out)
        rw [← HM.out] at this
        rw [this, HT.out]
      go_wp2_with (first
        | (go_at_call 15; refine (inside_yes _ _ _ (by omega) (by omega)).mono ?_; rintro e w4 ⟨rfl, rfl⟩)
        | (go_at_call 16; refine (put_items m A i c r x _ ro3.out hri hic (by omega)).mono ?_; rintro e w5 ⟨A5, c5, rfl, o5, hb5⟩))
      rw [HPI.out] at o5
      have b5 := below_step (below_step hbx hb3) hb5
      have o6 := own_base (base' := W.heap.size) o5 (below_step hbx hb3).size
      clear o5
      go_roundw
      case rel => exact ⟨i + 1, A5, c5, by omega, by go_num, rfl, by rw [HI.out, HD.out, wrap_add]; push_cast; rfl, o6, b5⟩
      case measure => simp [intOf]; omega
    · obtain rfl : i = n0 := by omega
      rw [List.take_of_length_le (by rw [HL.out]; exact Nat.le_refl _)] at hown
      have e2 := cell_on hbel d2
      have ro := Lib.hid (Rd.of_own hown)
      have hxx : ∀ z : Int, (z == z) = true := fun z => by simp
      have hx1 := hxx (wrap64 (invTo R l0 i))
      clear hown hxx
      have bW := below_step hb0 hbel
      have rr1 := Lib.hid (rr.out.on hbel)
      have ra1 := Lib.hid (ra.out.on hbel)
      clear hbel
      go_wp2_with fail
      go_region_held3 (fun w' => w'.cell? ⟨w.heap.size, 0, none⟩ = some (.slice A2 n2 c2) ∧ Below wr.heap.size wr w')
        (first | (exact ⟨e2, (Below.refl _ _).drew⟩) | (go_split_ands; exact ⟨nx_cell hbc (by assumption), nx_step (by assumption) hbc⟩))
        (first
          | (go_at_call 29; go_split_ands; refine (theirs_any l0 A0 i c0 _ (ra1.out.on (by assumption)) hn).mono ?_; rintro e w1 ⟨A6, c6, rfl, o6, hbc'⟩; have rt := Lib.hid (Rd.of_own o6); have hle6 := own_le o6; clear o6; have hbc := nx hbc'; clear hbc')
          | (go_at_call 28; go_split_ands; refine (Inversions_any l0 A6 i c6 R A2 n2 c2 _ (by refine Rd.on (rt.out) ?_; repeat (first | exact Below.refl _ _ | refine nx_step ?_ (by with_reducible assumption))) (rr1.out.on (by assumption)) hle6 hn).mono ?_; rintro e w2 ⟨rfl, hbc'⟩; have hbc := nx hbc'; clear hbc')
          | (go_at_call 21; go_split_ands; refine (Stable_any R A2 n2 c2 l0 A0 i c0 _ (rr1.out.on (by assumption)) (ra1.out.on (by assumption)) (by omega)).mono ?_; rintro e w3 ⟨A3, c3, rfl, o3, hbc'⟩; have ru := Lib.hid (Rd.of_own o3); clear o3; have hbc := nx hbc'; clear hbc')
          | (go_at_call 20; go_split_ands; refine (same_items (stab (rJ R) l0) A A3 i c c3 _ (ro.out.on (by assumption)) (by refine Rd.on (ru.out) ?_; repeat (first | exact Below.refl _ _ | refine nx_step ?_ (by with_reducible assumption))) (by omega)).mono ?_; rintro e w4 ⟨rfl, hbc'⟩; have hbc := nx hbc'; clear hbc'))
      all_goals
        go_wp2
        go_ret
        exact ⟨rfl, below_step bW (by go_split_ands; assumption)⟩
end Go.Proofs.Ytbfeokhkmlcgaaa

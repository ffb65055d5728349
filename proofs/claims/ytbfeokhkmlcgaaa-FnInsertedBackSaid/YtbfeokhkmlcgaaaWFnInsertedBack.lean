/- FnInsertedBack returns true: for every list and order. -/
import Derived.Test.YtbfeokhkmlcgaaaImplStable
import Derived.Test.YtbfeokhkmlcgaaaInside
import Derived.Test.YtbfeokhkmlcgaaaLFirst
import Derived.Test.YtbfeokhkmlcgaaaTurnedI
import Derived.Test.YtbfeokhkmlcgaaaInsPlain
import Derived.Test.YtbfeokhkmlcgaaaPut
import Derived.Test.YtbfeokhkmlcgaaaSame
import Derived.Test.YtbfeokhkmlcgaaaOpen
namespace Go.Proofs.Ytbfeokhkmlcgaaa
open Go.RowKit

set_option maxHeartbeats 8000000 in
theorem wFnInsertedBack (A0 : Option Addr) (n0 c0 : Nat) (l0 : List (Int × Int)) (A2 : Option Addr) (n2 c2 : Nat) (R : List Int) (w : World)
    (r0 : Rd w w.heap.size 2 A0 n0 (cI l0)) (_z0 : ∀ y ∈ l0, InI y.1 ∧ InI y.2) (le0 : n0 ≤ c0) (b0 : c0 * 16 ≤ 140737488351232)
    (r2 : Rd w w.heap.size 1 A2 n2 (cZ R)) (_z2 : ∀ y ∈ R, InI y) (_le2 : n2 ≤ c2) (_b2 : c2 * 8 ≤ 140737488351232) :
    Calls Try.prog 11 #[.slice A0 n0 c0, .agg #[.slice A2 n2 c2]] w fun e w' => e = .returned (.bool true) ∧ Below w.heap.size w w' := by
  clear _z0 _z2 _le2 _b2
  have hn : n0 * 16 ≤ 140737488351232 := by omega
  have HL := Lib.hid (rdI_len r0)
  have hb0 := below_alloc1 w (.cells #[.slice A2 n2 c2] 25)
  have d2 : (w.alloc (.cells #[.slice A2 n2 c2] 25)).cell? ⟨w.heap.size, 0, none⟩ = some (.slice A2 n2 c2) := by simp [go_sem]
  have ra := Lib.hid (r0.on hb0)
  have rr := Lib.hid (r2.on hb0)
  clear r0 r2 le0 b0
  go_enter Try.func11, Try.ntmps11
  go_wp2_with fail
  generalize w.alloc (.cells #[.slice A2 n2 c2] 25) = W0 at *
  refine (turned_items l0 A0 n0 c0 W0 ra.out hn).mono ?_
  rintro e W ⟨A1, c1, rfl, o1, b1⟩
  have rt := Lib.hid (Rd.of_own o1)
  have d3 := cell_on b1 d2
  have ra' := Lib.hid (ra.out.on b1)
  have rr' := Lib.hid (rr.out.on b1)
  have hbW := below_step hb0 b1
  have HLr : Hid (l0.reverse.length = n0) := by unfold Hid; rw [List.length_reverse]; exact HL.out
  clear o1 ra rr d2 b1 hb0
  obtain ⟨lr, hlr⟩ : ∃ lr, lr = l0.reverse := ⟨_, rfl⟩
  rw [← hlr] at rt HLr
  have HR0 : Hid (lr.reverse = l0) := by unfold Hid; rw [hlr, List.reverse_reverse]
  clear hlr
  go_wp2_with fail
  go_loopw [5, 12] (fun v s wr => ∃ (i : Nat) (A : Option Addr) (c : Nat), i ≤ n0 ∧ s = .int .i64 i ∧ v = .slice A i c ∧ wr.ownsRow W.heap.size 28 2 (.slice A i c) i (cI (stab (rJ R) (lr.take i).reverse)) ∧ Below W.heap.size W wr) (fun _ s _ => n0 - (intOf s).toNat)
  case atStart => exact ⟨0, none, 0, Nat.zero_le _, rfl, rfl, by simpa [cI, stab] using own_nil _ _ _ _, Below.refl _ _⟩
  case round =>
    obtain ⟨i, A, c, hi, rfl, rfl, hown, hbel⟩ := hrel
    have hic := own_le hown
    by_cases hlt : i < n0
    · obtain ⟨b, off, rfl, _, hc1, hc2⟩ := rdI_at (k := i) (rt.out.on hbel) hlt
      have HT : Hid ((lr.take (i + 1)).reverse = [it lr i] ++ (lr.take i).reverse) := by unfold Hid; rw [it_snoc lr i (by rw [HLr.out]; exact hlt), List.reverse_append]; rfl
      have hsl : (stab (rJ R) (lr.take i).reverse).length = i := by rw [stab_len, List.length_reverse, List.length_take, HLr.out]; omega
      obtain ⟨x, hx⟩ : ∃ x, x = it lr i := ⟨_, rfl⟩
      rw [← hx] at hc1 hc2 HT
      clear hx
      have hst := first_step (stab_srt (rJ R) (lr.take i).reverse) x
      rw [hsl] at hst
      have HS := Lib.hid hst
      clear hst
      have hbx := hbel.alloc hbel.size (.cells #[.int .i64 x.1, .int .i64 x.2] 28)
      have t2 := cell_on hbx d3
      have y0 : (wr.alloc (.cells #[.int .i64 x.1, .int .i64 x.2] 28)).cell? ⟨wr.heap.size, 0, none⟩ = some (.int .i64 x.1) := by simp [go_sem]
      have y1 : (wr.alloc (.cells #[.int .i64 x.1, .int .i64 x.2] 28)).cell? ⟨wr.heap.size, 1, none⟩ = some (.int .i64 x.2) := by simp [go_sem]
      have rq := Lib.hid (rr'.out.on hbx)
      have ro := Lib.hid (Rd.of_own (hown.alloc (.cells #[.int .i64 x.1, .int .i64 x.2] 28)))
      obtain ⟨m, hm⟩ : ∃ m, m = stab (rJ R) (lr.take i).reverse := ⟨_, rfl⟩
      rw [← hm] at ro HS
      have HM := Lib.hid hm
      have HML : Hid (m.length = i) := by unfold Hid; rw [hm]; exact hsl
      clear hm hsl hown
      go_wp2_with fail
      generalize wr.alloc (.cells #[.int .i64 x.1, .int .i64 x.2] 28) = W2 at hbx t2 y0 y1 rq ro ⊢
      refine (SearchFirst_any R A2 n2 c2 m A i c x _ rq.out ro.out (by omega)).mono ?_
      rintro e w3 ⟨r, hcut, rfl, hb3⟩
      have HR := Lib.hid (HS.out.cut hcut)
      have hri : r ≤ i := hcut.1
      have HS2 : Hid (Step (pFirst R m x) m.length r) := by unfold Hid; rw [HML.out, HR.out]; exact HS.out
      clear hcut
      have u0 := cell_on hb3 y0
      have u1 := cell_on hb3 y1
      have ro3 := Lib.hid (ro.out.on hb3)
      have HPI : Hid (m.take r ++ x :: m.drop r = stab (rJ R) (lr.take (i + 1)).reverse) := by
        unfold Hid
        have := first_ins R (lr.take i).reverse x r (by rw [← HM.out]; exact HS2.out)
        rw [← HM.out] at this
        rw [this, HT.out]
      go_wp2_with (first
        | (go_at_call 15; refine (inside_yes _ _ _ (by omega) (by omega)).mono ?_; rintro e w4 ⟨rfl, rfl⟩)
        | (go_at_call 16; refine (put_items m A i c r x _ ro3.out hri hic (by omega)).mono ?_; rintro e w5 ⟨A5, c5, rfl, o5, hb5⟩))
      rw [HPI.out] at o5
      have b5 := below_step (below_step hbx hb3) hb5
      have o6 := own_base (base' := W.heap.size) o5 (below_step hbx hb3).size
      clear o5
      go_roundw
      case rel => exact ⟨i + 1, A5, c5, by omega, by go_num, rfl, o6, b5⟩
      case measure => simp [intOf]; omega
    · obtain rfl : i = n0 := by omega
      rw [List.take_of_length_le (by rw [HLr.out]; exact Nat.le_refl _), HR0.out] at hown
      have e2 := cell_on hbel d3
      have ro := Lib.hid (Rd.of_own hown)
      clear hown
      go_wp2_with (first
        | (go_at_call 21; refine (Stable_any R A2 n2 c2 l0 A0 i c0 _ (rr'.out.on hbel) (ra'.out.on hbel) (by omega)).mono ?_; rintro e w1 ⟨A3, c3, rfl, o3, hb3⟩; have ru := Lib.hid (Rd.of_own o3); clear o3)
        | (go_at_call 20; refine (same_items (stab (rJ R) l0) A A3 i c c3 _ (ro.out.on hb3) ru.out (by omega)).mono ?_; rintro e w4 ⟨rfl, hb4⟩))
      go_ret
      exact ⟨rfl, below_step hbW (below_step (below_step hbel hb3) hb4)⟩
end Go.Proofs.Ytbfeokhkmlcgaaa

/- FnSearchSorted returns true: for every list, order and two limits. -/
import Derived.Test.YtdjlcpfjemmlgaaTabs
import Derived.Test.YtdjlcpfjemmlgaaElems
import Derived.Test.YtdjlcpfjemmlgaaSteps
import Derived.Test.YtdjlcpfjemmlgaaLRank
import Derived.Test.YtdjlcpfjemmlgaaTwo
import Derived.Test.YtdjlcpfjemmlgaaSortedPlain
import Derived.Test.YtdjlcpfjemmlgaaCountsPlain
import Derived.Test.YtdjlcpfjemmlgaaOpen
namespace Go.Proofs.Ytdjlcpfjemmlgaa
open Go.RowKit
theorem cB_snoc' (l : List Bool) (b : Bool) : cB l ++ (#[Value.bool b] : Array Value).toList = cB (l ++ [b]) := by simp [cB]
theorem map_snoc {β : Type} (m : List (Int × Int)) (f : Int × Int → β) (k : Nat) (h : k < m.length) : (m.map f).take (k + 1) = (m.map f).take k ++ [f (it m k)] := by
  rw [take_snoc _ k (by simpa using h), List.getElem_map, it_lt h]
/-- How many of the first k lie between. -/
def btw (R : List Int) (m : List (Int × Int)) (low high : Int) (k : Nat) : Nat := (m.take k).countP fun y => decide (low ≤ rI R y) && decide (rI R y < high)
theorem btw_le (R : List Int) (m : List (Int × Int)) (low high : Int) (k : Nat) : btw R m low high k ≤ k := Nat.le_trans List.countP_le_length (by simp; omega)
theorem btw_succ (R : List Int) (m : List (Int × Int)) (low high : Int) (k : Nat) (h : k < m.length) : btw R m low high (k + 1) = btw R m low high k + if low ≤ rk R (it m k).1 ∧ rk R (it m k).1 < high then 1 else 0 := by
  unfold btw
  rw [it_snoc m k h, List.countP_append, List.countP_singleton]
  simp only [Bool.and_eq_true, decide_eq_true_eq]
  rfl

set_option maxHeartbeats 4000000 in
theorem wFnSearchSorted (A0 : Option Addr) (n0 c0 : Nat) (l0 : List (Int × Int)) (A1 : Option Addr) (n1 c1 : Nat) (R : List Int) (low high : Int) (w : World)
    (r0 : Rd w w.heap.size 2 A0 n0 (cI l0)) (_z0 : ∀ y ∈ l0, InI y.1 ∧ InI y.2) (le0 : n0 ≤ c0) (b0 : c0 * 16 ≤ 140737488351232)
    (r1 : Rd w w.heap.size 1 A1 n1 (cZ R)) (_z1 : ∀ y ∈ R, InI y) (_le1 : n1 ≤ c1) (_b1 : c1 * 8 ≤ 140737488351232) (_i2 : InI low) (_i3 : InI high) :
    Calls Try.prog 6 #[.slice A0 n0 c0, .agg #[.slice A1 n1 c1], .int .i64 low, .int .i64 high] w fun e w' => e = .returned (.bool true) ∧ Below w.heap.size w w' := by
  clear _z0 _z1 _le1 _b1 _i2 _i3
  have hn : n0 * 16 ≤ 140737488351232 := by omega
  have HL := Lib.hid (rdI_len r0)
  have hb0 := below_alloc1 w (.cells #[.slice A1 n1 c1] 25)
  have q0 : (w.alloc (.cells #[.slice A1 n1 c1] 25)).cell? ⟨w.heap.size, 0, none⟩ = some (.slice A1 n1 c1) := by simp [go_sem]
  by_cases hlh : high < low
  · clear r0 r1 HL q0
    go_enter Try.func6, Try.ntmps6
    go_wp2
    go_ret
    exact ⟨rfl, hb0⟩
  · have hd : decide (high < low) = false := by simpa using hlh
    go_enter Try.func6, Try.ntmps6
    go_wp2_with fail
    refine (lstable_any l0 A0 n0 c0 R A1 n1 c1 _ (r0.on hb0) (r1.on hb0) hn).mono ?_
    rintro e W ⟨A, c, rfl, o1, b1⟩
    have rs := Lib.hid (Rd.of_own o1)
    have rr := Lib.hid ((r1.on hb0).on b1)
    have d2 : W.cell? ⟨w.heap.size, 0, none⟩ = some (.slice A1 n1 c1) := cell_on b1 q0
    have bw := below_step hb0 b1
    clear o1 r0 r1 hb0 b1 q0 hd
    have hsl : Hid ((stab (rI R) l0).length = n0) := by unfold Hid; rw [stab_len]; exact HL.out
    have hsr := stab_srt (rI R) l0
    rw [show stab (fun x => rk R x.1) l0 = stab (rI R) l0 from rfl] at rs
    obtain ⟨m, hm⟩ : ∃ m, m = stab (rI R) l0 := ⟨_, rfl⟩
    rw [← hm] at rs hsl hsr
    clear hm
    have S1 := lim_step (rI R) m hsr low
    have S2 := lim_step (rI R) m hsr high
    have BC := Lib.hid (between_count (rI R) m low high (by omega))
    rw [hsl.out] at S1 S2
    have HS1 := Lib.hid S1
    have HS2 := Lib.hid S2
    clear S1 S2 hsr HL
    go_wp2_with fail
    go_loopw [9, 10, 11, 23] (fun va vb vn s wr => ∃ (i : Nat) (B D : Option Addr) (cb cd : Nat), i ≤ n0 ∧ s = .int .i64 i ∧ va = .slice B i cb ∧ vb = .slice D i cd ∧ vn = .int .i64 (btw R m low high i) ∧
      wr.ownsRow W.heap.size 4 1 (.slice B i cb) i (cB ((m.map fun y => decide (low ≤ rI R y)).take i)) ∧ wr.ownsRow W.heap.size 4 1 (.slice D i cd) i (cB ((m.map fun y => decide (high ≤ rI R y)).take i)) ∧ Hid (Apt (.slice D i cd) (.slice B i cb)) ∧ Below W.heap.size W wr) (fun _ _ _ s _ => n0 - (intOf s).toNat)
    case atStart => exact ⟨0, none, none, 0, 0, Nat.zero_le _, rfl, rfl, rfl, by simp [btw], by simpa [cB] using own_nil _ _ _ _, by simpa [cB] using own_nil _ _ _ _, Apt.nil _, Below.refl _ _⟩
    case round =>
      obtain ⟨i, B, D, cb, cd, hi, rfl, rfl, rfl, rfl, oa, ob, hap, hbel⟩ := hrel
      have hq := btw_le R m low high i
      by_cases hlt : i < n0
      · obtain ⟨b, off, rfl, _, hc1, hc2⟩ := rdI_at (k := i) (rs.out.on hbel) hlt
        have him : i < m.length := by rw [hsl.out]; exact hlt
        have T1 := Lib.hid (map_snoc m (fun y => decide (low ≤ rI R y)) i him)
        have T2 := Lib.hid (map_snoc m (fun y => decide (high ≤ rI R y)) i him)
        have T3 := Lib.hid (btw_succ R m low high i him)
        clear him
        obtain ⟨⟨xk, xt⟩, hx⟩ : ∃ x, x = it m i := ⟨_, rfl⟩
        rw [← hx] at hc1 hc2 T1 T2 T3
        clear hx
        have hbx := hbel.alloc hbel.size (.cells #[.int .i64 xk, .int .i64 xt] 29)
        have t2 := cell_on hbx d2
        have oa1 := oa.alloc (.cells #[.int .i64 xk, .int .i64 xt] 29)
        have ob1 := ob.alloc (.cells #[.int .i64 xk, .int .i64 xt] 29)
        have HOA := Lib.hid oa1
        have HOB := Lib.hid ob1
        have rq := Lib.hid (rr.out.on hbx)
        clear oa ob oa1 ob1
        generalize btw R m low high i = q at T3 hq
        have HT3 : Hid (∃ q' : Nat, btw R m low high (i + 1) = q' ∧ (low ≤ rk R xk ∧ rk R xk < high → q' = q + 1) ∧ (¬ (low ≤ rk R xk ∧ rk R xk < high) → q' = q)) := by
          refine ⟨_, T3.out, fun h => by rw [if_pos h], fun h => by rw [if_neg h, Nat.add_zero]⟩
        clear T3
        go_wp2_with (first
          | (go_at_call 17; refine (lrank_any R A1 n1 c1 _ _ _ rq.out).mono ?_; rintro e w2 ⟨rfl, hb2⟩; have oa2 := own_on HOA.out hb2; have ob2 := own_on HOB.out hb2; have b2 := below_step hbx hb2)
          | (at_builtin; refine wpList_app eB rfl _ _ rfl W.heap.size w2 B i cb _ rfl oa2 #[.bool (decide (low ≤ rk R xk))] rfl rfl (one_bool _) (by omega) (by unfold maxLen; omega) b2.size ?_; rintro g cap w3 hL3; have hL3b := Lies.other hL3 ob2 hap; obtain ⟨oa3, bl3, _, _, _⟩ := hL3; obtain ⟨ob3, ap3⟩ := hL3b; have b3 := b2.trans bl3)
          | (at_builtin; refine wpList_app eB rfl _ _ rfl W.heap.size w3 D i cd _ rfl ob3 #[.bool (decide (high ≤ rk R xk))] rfl rfl (one_bool _) (by omega) (by unfold maxLen; omega) b3.size ?_; rintro g2 cap2 w4 hL4; have hL4b := Lies.other hL4 oa3 ap3.symm; obtain ⟨ob4, bl4, _, _, _⟩ := hL4; obtain ⟨oa4, ap4⟩ := hL4b; have b4 := b3.trans bl4))
        all_goals
          rw [cB_snoc'] at oa4 ob4
          rw [show decide (low ≤ rk R xk) = decide (low ≤ rI R (xk, xt)) from rfl, ← T1.out] at oa4
          rw [show decide (high ≤ rk R xk) = decide (high ≤ rI R (xk, xt)) from rfl, ← T2.out] at ob4
          go_roundw
          case rel =>
            refine ⟨i + 1, _, _, _, _, by omega, by go_num, rfl, rfl, ?_, oa4, ob4, ap4.symm, b4⟩
            obtain ⟨q', hq1, hq2, hq3⟩ := HT3.out
            rw [hq1]
            by_cases kk : low ≤ rk R xk ∧ rk R xk < high
            · rw [hq2 kk]
              all_goals first | go_num | (exfalso; omega)
            · rw [hq3 kk]
              all_goals first | rfl | (exfalso; omega)
          case measure => simp [intOf]; omega
      · obtain rfl : i = n0 := by omega
        have hbt : Hid (btw R m low high i + cLt (rI R) low m = cLt (rI R) high m) := by
          unfold Hid
          have := BC.out
          unfold btw
          rw [List.take_of_length_le (by rw [hsl.out]; exact Nat.le_refl _)]
          exact this
        rw [List.take_of_length_le (by rw [List.length_map, hsl.out]; exact Nat.le_refl _)] at oa ob
        have ra := Lib.hid (Rd.of_own oa)
        have rb := Lib.hid (Rd.of_own ob)
        clear oa ob hap
        generalize btw R m low high i = q at hbt hq
        go_wp2_with (first
          | (go_at_call 19; refine (Search_any _ D i cd i wr rb.out (by omega)).mono ?_; rintro e w2 ⟨r2, hc2, rfl, hb2⟩; have hr2 := Lib.hid (HS2.out.cut hc2); have hr2' := hc2.1; clear hc2)
          | (go_at_call 19; refine (Search_any _ B i cb i w2 (ra.out.on hb2) (by omega)).mono ?_; rintro e w3 ⟨r3, hc3, rfl, hb3⟩; have hr3 := Lib.hid (HS1.out.cut hc3); have hr3' := hc3.1; clear hc3))
        have hf := hbt.out
        rw [← hr2.out, ← hr3.out] at hf
        go_ret
        exact ⟨by simp; omega, below_step (below_step (below_step bw hbel) hb2) hb3⟩
end Go.Proofs.Ytdjlcpfjemmlgaa

/- FnSearchSplit returns true: for every table and every cut. -/
import Derived.Test.YtdjlcpfjemmlgaaTabs
import Derived.Test.YtdjlcpfjemmlgaaOpen
import Derived.Test.YtdjlcpfjemmlgaaInside
namespace Go.Proofs.Ytdjlcpfjemmlgaa
open Go.RowKit

theorem split_fst (l : List Bool) (n k s r : Nat) (hl : l.length = n) (hk : k ≤ n) (h : Step (mk l) n s) (hc : Cut (mk (l.take k)) k r) : r = min s k := by
  refine Step.cut (p := mk (l.take k)) (n := k) ⟨by omega, fun j hj => ?_⟩ hc
  have e : mk (l.take k) j = mk l j := by rw [mk_lt (by simp; omega), mk_lt (by omega)]; simp
  rw [e, h.2 j (by omega)]
  by_cases hs : s ≤ j
  · rw [decide_eq_true hs, decide_eq_true (by omega)]
  · rw [decide_eq_false hs, decide_eq_false (by omega)]
theorem split_snd (l : List Bool) (n k s r : Nat) (hl : l.length = n) (hk : k ≤ n) (hs : k ≤ s) (h : Step (mk l) n s) (hc : Cut (mk (l.drop k)) (n - k) r) : r = s - k := by
  have := h.1
  refine Step.cut (p := mk (l.drop k)) (n := n - k) ⟨by omega, fun j hj => ?_⟩ hc
  have e : mk (l.drop k) j = mk l (k + j) := by rw [mk_lt (by simp; omega), mk_lt (by omega)]; simp
  rw [e, h.2 _ (by omega)]
  by_cases hs' : s ≤ k + j
  · rw [decide_eq_true hs', decide_eq_true (by omega)]
  · rw [decide_eq_false hs', decide_eq_false (by omega)]
theorem cB_take (l : List Bool) (k : Nat) : (cB l).take (k * 1) = cB (l.take k) := by simp [cB]
theorem cB_drop (l : List Bool) (k : Nat) : (cB l).drop (k * 1) = cB (l.drop k) := by simp [cB]

set_option maxHeartbeats 1000000 in
theorem wFnSearchSplit (A0 : Option Addr) (n0 c0 : Nat) (l0 : List Bool) (a1 : Int) (w : World) (r0 : Rd w w.heap.size 1 A0 n0 (cB l0)) (le0 : n0 ≤ c0) (b0 : c0 * 1 ≤ 140737488351232) (i1 : InI a1) :
    Calls Try.prog 7 #[.slice A0 n0 c0, .int .i64 a1] w fun e w' => e = .returned (.bool true) ∧ Below w.heap.size w w' := by
  have hn : n0 ≤ 140737488351232 := by omega
  have hl := rdB_len r0
  have HL := Lib.hid hl
  clear hl
  have hi1 := i1.1
  have hi2 := i1.2
  clear i1
  by_cases hin : 0 ≤ a1 ∧ a1 ≤ n0
  · obtain ⟨k, rfl⟩ := Int.eq_ofNat_of_zero_le hin.1
    have hk : k ≤ n0 := by omega
    clear hin hi1 hi2
    go_enter Try.func7, Try.ntmps7
    go_wp2_with fail
    refine (inside_yes _ _ w (by omega) (by omega)).mono ?_
    rintro e w' ⟨rfl, rfl⟩
    go_wp2_with fail
    refine (Rising_any l0 A0 n0 c0 n0 w r0 (by omega) (by omega)).mono ?_
    rintro e w' ⟨b, hb, rfl, rfl⟩
    have HB := Lib.hid hb
    clear hb
    cases b
    · go_wp2
      go_ret
      exact ⟨rfl, Below.refl _ _⟩
    · obtain ⟨s, hs⟩ := (HB.out.1 (by first | rfl | trivial)).mono.step
      have HS := Lib.hid hs
      have hsn := hs.1
      clear hs HB
      go_wp2_with fail
      refine (Search_any (l0.take k) A0 k c0 k w (by rw [← cB_take]; exact r0.take_ hk) (by omega)).mono ?_
      rintro e w1 ⟨r, hc, rfl, hb1⟩
      have hr := split_fst l0 n0 k s r HL.out hk HS.out hc
      clear hc
      by_cases hsk : k ≤ s
      · obtain rfl : r = k := by omega
        clear hr
        have HK := Lib.hid hsk
        go_wp2_with fail
        all_goals
          rw [show ((n0 : Int) - (r : Int)) = ((n0 - r : Nat) : Int) by omega]
          refine (Search_any (l0.drop r) _ (n0 - r) _ (n0 - r) w1 (by rw [← cB_drop]; exact (r0.on hb1).drop_ hk (by first | (intro _; simp; done) | (intro h; omega))) (by omega)).mono ?_
          rintro e w2 ⟨q, hq, rfl, hb2⟩
          have hq' := split_snd l0 n0 r s q HL.out hk HK.out HS.out hq
          clear hq
          have hrq : s = r + q := by have := HK.out; omega
          subst hrq
          clear hq'
          go_wp2_with fail
          refine (Search_any l0 A0 n0 _ n0 w2 ((r0.on hb1).on hb2) (by omega)).mono ?_
          rintro e w3 ⟨t, ht, rfl, hb3⟩
          obtain rfl := HS.out.cut ht
          clear ht
          have e1 : (((r + q : Nat) : Int) == (r : Int) + (q : Int)) = true := by simp
          go_wp2_with fail
          refine (First_any l0 A0 n0 _ n0 w3 (((r0.on hb1).on hb2).on hb3) (by omega) (by omega)).mono ?_
          rintro e w4 ⟨u, hu, rfl, rfl⟩
          obtain rfl := HS.out.first hu
          clear hu
          have e2 : ((r : Int) + (q : Int) == ((r + q : Nat) : Int)) = true := by simp
          go_wp2
          go_ret
          exact ⟨by simp, below_step (below_step hb1 hb2) hb3⟩
      · obtain rfl : r = s := by omega
        clear hr
        have e0 : ((r : Int) == (k : Int)) = false := by simp; omega
        go_wp2_with fail
        refine (Search_any l0 A0 n0 c0 n0 w1 (r0.on hb1) (by omega)).mono ?_
        rintro e w3 ⟨t, ht, rfl, hb3⟩
        obtain rfl := HS.out.cut ht
        clear ht
        go_wp2_with fail
        refine (First_any l0 A0 n0 c0 n0 w3 ((r0.on hb1).on hb3) (by omega) (by omega)).mono ?_
        rintro e w4 ⟨u, hu, rfl, rfl⟩
        obtain rfl := HS.out.first hu
        clear hu
        go_wp2
        go_ret
        exact ⟨by simp, below_step hb1 hb3⟩
  · go_enter Try.func7, Try.ntmps7
    go_wp2_with fail
    refine (inside_no _ _ w hin).mono ?_
    rintro e w' ⟨rfl, rfl⟩
    go_wp2
    go_ret
    exact ⟨rfl, Below.refl _ _⟩
end Go.Proofs.Ytdjlcpfjemmlgaa

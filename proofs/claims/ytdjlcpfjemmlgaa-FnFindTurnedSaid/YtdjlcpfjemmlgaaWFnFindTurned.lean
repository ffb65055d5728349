/- FnFindTurned returns true: for every table. -/
import Derived.Test.YtdjlcpfjemmlgaaSigns
import Derived.Test.YtdjlcpfjemmlgaaElems
import Derived.Test.YtdjlcpfjemmlgaaOpen
namespace Go.Proofs.Ytdjlcpfjemmlgaa
open Go.RowKit

theorem cZ_snoc (l : List Int) (b : Int) : cZ l ++ (#[Value.int .i64 b] : Array Value).toList = cZ (l ++ [b]) := by simp [cZ]
set_option maxHeartbeats 400000 in
/-- laws.turned of ints: the list from its end, as a new list. -/
theorem turnedZ_any (l : List Int) (A : Option Addr) (n c : Nat) (w : World) (hr : Rd w w.heap.size 1 A n (cZ l)) (hn : n ≤ 17592186043904) :
    Calls Try.prog 27 #[.slice A n c] w (OwnList 3 1 (cZ l.reverse) n w) := by
  have hl := rdZ_len hr
  go_enter Try.func27, Try.ntmps27
  go_wp2
  go_loopw [3, 4] (fun v i wr => ∃ (k : Nat) (A' : Option Addr) (c' : Nat), k ≤ n ∧ i = .int .i64 ((n : Int) - 1 - k) ∧ v = .slice A' k c' ∧ wr.ownsRow w.heap.size 3 1 (.slice A' k c') k (cZ (l.reverse.take k)) ∧ Below w.heap.size w wr)
    (fun _ i _ => (intOf i + 1).toNat)
  case atStart => exact ⟨0, none, 0, Nat.zero_le _, by simp, rfl, by simpa [cZ] using own_nil _ _ _ _, Below.refl _ _⟩
  case round =>
    obtain ⟨k, A', c', hk, rfl, rfl, hown, hbel⟩ := hrel
    by_cases hlt : k < n
    · obtain ⟨b, off, rfl, hb, hc⟩ := rdZ_at (k := n - 1 - k) (hr.below hbel) (by omega)
      have h1 : (0 : Int) ≤ (n : Int) - 1 - k := by omega
      have h2 : (n : Int) - 1 - k < (n : Int) := by omega
      have h3 : ((n : Int) - 1 - k).toNat = n - 1 - k := by omega
      have hsz := hbel.size
      go_wp2_with (at_builtin; refine wpList_app eZ rfl _ _ rfl w.heap.size wr A' k c' _ rfl hown #[.int .i64 (l[n - 1 - k]?.getD 0)] rfl rfl (one_int _ _) (by omega) (by unfold maxLen; omega) hsz ?_; rintro g cap w1 ⟨o1, b1, g1, y1, z1⟩)
      have o2 : w1.ownsRow w.heap.size 3 1 (.slice (some ⟨g, 0, none⟩) (k + 1) cap) (k + 1) (cZ (l.reverse.take (k + 1))) := by
        rw [cZ_snoc] at o1
        rw [rev_snocD l n k 0 hl hlt]
        exact o1
      have b2 := hbel.trans b1
      go_wp2
      go_roundw
      case rel => exact ⟨k + 1, some ⟨g, 0, none⟩, cap, by omega, by go_num, rfl, o2, b2⟩
      case measure => simp [intOf]; omega
    · obtain rfl : k = n := by omega
      rw [List.take_of_length_le (by simp; omega)] at hown
      have h1 : (k : Int) - 1 - k < 0 := by omega
      go_wp2
      go_ret
      exact ⟨A', c', rfl, hown, hbel⟩

/-- The plain law. -/
theorem turned_signs (l : List Int) (n a b : Nat) (hl : l.length = n) (hf : Falls n l) (ha : Cut (notPos (cv l)) n a) (hb : Cut (notPos (cv (l.reverse.map (scl (-1) 1)))) n b) :
    fnd (cv l) n a = fnd (cv (l.reverse.map (scl (-1) 1))) n b ∧ fnd (cv l) n a = decide (0 < l.countP (· == 0)) ∧ a + b + l.countP (· == 0) = n := by
  have sa := ha.step hf.mono
  have hm : Mono (fun i => decide (cv l i < 0)) n := fun i j hij hj hp => by
    have := hf.anti i j hij hj
    rw [decide_eq_true_eq] at hp ⊢
    have h1 : sg l i < 0 := by unfold sg sgn; rw [if_pos hp]; omega
    unfold sg sgn at this h1
    rw [if_pos hp] at this
    split at this
    · assumption
    · split at this <;> omega
  obtain ⟨m, sm⟩ := hm.step
  have ham : a ≤ m := by
    rcases Nat.lt_or_ge m a with h | h
    · have h1 := sm.2 m (by have := sa.1; omega)
      have h2 := sa.2 m (by have := sa.1; omega)
      rw [decide_eq_true (Nat.le_refl m)] at h1
      rw [decide_eq_false (by omega)] at h2
      unfold notPos at h2
      simp at h1 h2
      omega
    · exact h
  have hz : ∀ i, i < n → (cv l i = 0 ↔ a ≤ i ∧ i < m) := fun i hi => by
    have h1 := sm.2 i hi
    have h2 := sa.2 i hi
    unfold notPos at h2
    rw [decide_eq_decide] at h1 h2
    omega
  have hcnt : l.countP (· == 0) = m - a := countP_all l _ a m ham (by rw [hl]; exact sm.1) fun i x hx => by
    have hi : i < n := by rw [← hl]; exact (List.getElem?_eq_some_iff.1 hx).1
    have := hz i hi
    rw [cv, hx] at this
    simpa using this
  have hcb : ∀ j, j < n → cv (l.reverse.map (scl (-1) 1)) j = scl (-1) 1 (cv l (n - 1 - j)) := fun j hj => by
    unfold cv
    rw [List.getElem?_map, List.getElem?_reverse (by omega), hl, List.getElem?_eq_getElem (show n - 1 - j < l.length by omega)]
    rfl
  have sb : Step (notPos (cv (l.reverse.map (scl (-1) 1)))) n (n - m) := by
    refine ⟨by omega, fun j hj => ?_⟩
    have h1 := sm.2 (n - 1 - j) (by omega)
    rw [decide_eq_decide] at h1
    unfold notPos
    rw [hcb j hj, decide_eq_decide]
    unfold scl
    have := sm.1
    split
    · omega
    · split <;> omega
  have hbm := sb.cut hb
  have hmn := sm.1
  have hfa : fnd (cv l) n a = decide (a < m) := by
    unfold fnd
    rw [decide_eq_decide]
    constructor
    · intro h; exact ((hz a h.1).1 h.2).2
    · intro h; exact ⟨by omega, (hz a (by omega)).2 ⟨Nat.le_refl _, h⟩⟩
  have hfb : fnd (cv (l.reverse.map (scl (-1) 1))) n b = decide (a < m) := by
    unfold fnd
    rw [decide_eq_decide]
    constructor
    · intro h
      rw [hcb b h.1] at h
      have h0 : cv l (n - 1 - b) = 0 := by have := h.2; unfold scl at this; split at this <;> (try split at this) <;> omega
      have := (hz _ (by omega)).1 h0
      omega
    · intro h
      refine ⟨by omega, ?_⟩
      rw [hcb b (by omega), (hz _ (by omega)).2 (by omega)]
      rfl
  refine ⟨by rw [hfa, hfb], ?_, by omega⟩
  rw [hfa, hcnt, decide_eq_decide]
  omega

set_option maxHeartbeats 2000000 in
set_option maxRecDepth 100000 in
theorem wFnFindTurned (A0 : Option Addr) (n0 c0 : Nat) (l0 : List Int) (w : World) (r0 : Rd w w.heap.size 1 A0 n0 (cZ l0)) (_z0 : ∀ y ∈ l0, InI y) (le0 : n0 ≤ c0) (b0 : c0 * 8 ≤ 140737488351232) :
    Calls Try.prog 12 #[.slice A0 n0 c0] w fun e w' => e = .returned (.bool true) ∧ Below w.heap.size w w' := by
  clear _z0
  have hn : n0 ≤ 17592186043904 := by omega
  have hl := rdZ_len r0
  have HL := Lib.hid hl
  clear hl
  go_enter Try.func12, Try.ntmps12
  go_wp2_with fail
  refine (Falling_any l0 A0 n0 c0 n0 w r0 (by omega) (by omega)).mono ?_
  rintro e w' ⟨b, hb, rfl, rfl⟩
  have HB := Lib.hid hb
  clear hb
  cases b
  · go_wp2
    go_ret
    exact ⟨rfl, Below.refl _ _⟩
  · go_wp2_with fail
    refine (turnedZ_any l0 A0 n0 c0 w r0 hn).mono ?_
    rintro e w1 ⟨A1, c1, rfl, own1, bel1⟩
    have rt := Rd.of_own own1
    clear own1
    obtain ⟨m0, hm0⟩ : ∃ m0, m0 = l0.reverse := ⟨_, rfl⟩
    rw [← hm0] at rt
    have hml : m0.length = n0 := by rw [hm0, List.length_reverse, HL.out]
    have HM := Lib.hid hm0
    have HML := Lib.hid hml
    clear hm0 hml
    go_wp2_with fail
    go_loopw [4, 5, 21] (fun v z i wr => ∃ (k q : Nat) (A' : Option Addr) (c' : Nat), k ≤ n0 ∧ q ≤ k ∧ i = .int .i64 k ∧ z = .int .i64 q ∧ v = .slice A' k c' ∧ wr.ownsRow w1.heap.size 3 1 (.slice A' k c') k (cZ ((m0.map (scl (-1) 1)).take k)) ∧ Below w1.heap.size w1 wr ∧ Hid (q = (m0.take k).countP (· == 0)))
      (fun _ _ i _ => n0 - (intOf i).toNat)
    case atStart => exact ⟨0, 0, none, 0, Nat.zero_le _, Nat.le_refl _, rfl, rfl, rfl, by simpa [cZ] using own_nil _ _ _ _, Below.refl _ _, by simp [Hid]⟩
    case round =>
      obtain ⟨k, q, A', c', hk, hqk, rfl, rfl, rfl, hown, hbel, HQ⟩ := hrel
      by_cases hlt : k < n0
      · obtain ⟨b, off, rfl, hb, hc⟩ := rdZ_at (k := k) (rt.below hbel) hlt
        have hsz := hbel.size
        have HX : Hid (∀ x, x = scl (-1) 1 (m0[k]?.getD 0) → cZ ((m0.map (scl (-1) 1)).take k) ++ (#[Value.int .i64 x] : Array Value).toList = cZ ((m0.map (scl (-1) 1)).take (k + 1))) := fun x hx => sc_snoc m0 (-1) 1 k x (by rw [HML.out]; exact hlt) hx
        have HC : Hid ((m0.take (k + 1)).countP (· == 0) = q + if m0[k]?.getD 0 = 0 then 1 else 0) := by
          unfold Hid
          rw [take_snocD m0 k 0 (by rw [HML.out]; exact hlt), List.countP_append, ← HQ.out, List.countP_singleton]
          simp
        generalize m0[k]?.getD 0 = s at hc HX HC
        rcases Int.lt_trichotomy s 0 with hs | rfl | hs
        · have HZ := Lib.hid (HX.out 1 (by unfold scl; rw [if_neg (by omega), if_pos hs]))
          have HC2 : Hid (q = (m0.take (k + 1)).countP (· == 0)) := by unfold Hid; rw [HC.out, if_neg (by omega)]; rfl
          clear HX HC
          go_wp2_with (at_builtin; refine wpList_app eZ rfl _ _ rfl w1.heap.size wr A' k c' _ rfl hown #[.int .i64 1] rfl rfl (one_int _ _) (by omega) (by unfold maxLen; omega) hsz ?_; rintro g cap w2 ⟨o2, b2, g2, y2, z2⟩)
          rw [HZ.out] at o2
          have b3 := hbel.trans b2
          go_wp2
          go_roundw
          case rel => exact ⟨k + 1, q, some ⟨g, 0, none⟩, cap, by omega, by omega, by go_num, rfl, rfl, o2, b3, HC2⟩
          case measure => simp [intOf]; omega
        · have HZ := Lib.hid (HX.out 0 (by simp [scl]))
          have HC2 : Hid (q + 1 = (m0.take (k + 1)).countP (· == 0)) := by unfold Hid; rw [HC.out, if_pos rfl]
          clear HX HC
          go_wp2_with (at_builtin; refine wpList_app eZ rfl _ _ rfl w1.heap.size wr A' k c' _ rfl hown #[.int .i64 0] rfl rfl (one_int _ _) (by omega) (by unfold maxLen; omega) hsz ?_; rintro g cap w2 ⟨o2, b2, g2, y2, z2⟩)
          rw [HZ.out] at o2
          have b3 := hbel.trans b2
          go_wp2
          go_roundw
          case rel => exact ⟨k + 1, q + 1, some ⟨g, 0, none⟩, cap, by omega, by omega, by go_num, by go_num, rfl, o2, b3, HC2⟩
          case measure => simp [intOf]; omega
        · have HZ := Lib.hid (HX.out (-1) (by unfold scl; rw [if_pos hs]))
          have HC2 : Hid (q = (m0.take (k + 1)).countP (· == 0)) := by unfold Hid; rw [HC.out, if_neg (by omega)]; rfl
          clear HX HC
          go_wp2_with (at_builtin; refine wpList_app eZ rfl _ _ rfl w1.heap.size wr A' k c' _ rfl hown #[.int .i64 (-1)] rfl rfl (one_int _ _) (by omega) (by unfold maxLen; omega) hsz ?_; rintro g cap w2 ⟨o2, b2, g2, y2, z2⟩)
          rw [HZ.out] at o2
          have b3 := hbel.trans b2
          go_wp2
          go_roundw
          case rel => exact ⟨k + 1, q, some ⟨g, 0, none⟩, cap, by omega, by omega, by go_num, rfl, rfl, o2, b3, HC2⟩
          case measure => simp [intOf]; omega
      · obtain rfl : k = n0 := by omega
        rw [List.take_of_length_le (by simp; have := HML.out; omega)] at hown
        have r2 := Rd.of_own hown
        have belw := below_step bel1 hbel
        clear hown
        go_wp2_with fail
        refine (Find_any l0 A0 k c0 k wr (r0.on belw) (by omega)).mono ?_
        rintro e w2 ⟨r, hc, rfl, hb2⟩
        go_wp2_with fail
        refine (Find_any _ A' k c' k w2 (r2.on hb2) (by omega)).mono ?_
        rintro e w3 ⟨s, hs, rfl, hb3⟩
        have hq : q = l0.countP (· == 0) := by
          rw [HQ.out, List.take_of_length_le (by have := HML.out; omega), HM.out, List.countP_reverse]
        rw [HM.out] at hs
        have hlaw := turned_signs l0 k r s HL.out (HB.out.1 (by first | rfl | trivial)) hc hs
        rw [← hq] at hlaw
        rw [HM.out]
        have hr1 := hc.1
        have hs1 := hs.1
        clear hc hs HB hq
        obtain ⟨f1, f2, f3⟩ := hlaw
        rw [← f1, f2]
        clear f1 f2
        by_cases h0 : 0 < q
        · have hd : decide (0 < q) = true := by simpa using h0
          have he : ((r : Int) + s + q == (k : Int)) = true := by simp; omega
          have F3 := Lib.hid f3
          clear f3
          rw [hd]
          go_wp2
          go_ret
          exact ⟨by simp, below_step (below_step belw hb2) hb3⟩
        · have hd : decide (0 < q) = false := by simpa using h0
          have he : ((r : Int) + s + q == (k : Int)) = true := by simp; omega
          have F3 := Lib.hid f3
          clear f3
          rw [hd]
          go_wp2
          go_ret
          exact ⟨by simp, below_step (below_step belw hb2) hb3⟩
end Go.Proofs.Ytdjlcpfjemmlgaa

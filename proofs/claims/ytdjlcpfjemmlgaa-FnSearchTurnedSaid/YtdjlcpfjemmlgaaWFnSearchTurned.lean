/- FnSearchTurned returns true: for every table. -/
import Derived.Test.YtdjlcpfjemmlgaaTabs
import Derived.Test.YtdjlcpfjemmlgaaElems
import Derived.Test.YtdjlcpfjemmlgaaOpen
namespace Go.Proofs.Ytdjlcpfjemmlgaa
open Go.RowKit

theorem cB_snoc (l : List Bool) (b : Bool) : cB l ++ (#[Value.bool b] : Array Value).toList = cB (l ++ [b]) := by simp [cB]

set_option maxHeartbeats 400000 in
/-- laws.turned of bools: the list from its end, as a new list. -/
theorem turnedB_any (l : List Bool) (A : Option Addr) (n c : Nat) (w : World) (hr : Rd w w.heap.size 1 A n (cB l)) (hn : n ≤ 140737488351232) :
    Calls Try.prog 23 #[.slice A n c] w (OwnList 4 1 (cB l.reverse) n w) := by
  have hl := rdB_len hr
  go_enter Try.func23, Try.ntmps23
  go_wp2
  go_loopw [3, 4] (fun v i wr => ∃ (k : Nat) (A' : Option Addr) (c' : Nat), k ≤ n ∧ i = .int .i64 ((n : Int) - 1 - k) ∧ v = .slice A' k c' ∧ wr.ownsRow w.heap.size 4 1 (.slice A' k c') k (cB (l.reverse.take k)) ∧ Below w.heap.size w wr)
    (fun _ i _ => (intOf i + 1).toNat)
  case atStart => exact ⟨0, none, 0, Nat.zero_le _, by simp, rfl, by simpa [cB] using own_nil _ _ _ _, Below.refl _ _⟩
  case round =>
    obtain ⟨k, A', c', hk, rfl, rfl, hown, hbel⟩ := hrel
    by_cases hlt : k < n
    · obtain ⟨b, off, rfl, hb, hc⟩ := rdB_at (k := n - 1 - k) (hr.below hbel) (by omega)
      have h1 : (0 : Int) ≤ (n : Int) - 1 - k := by omega
      have h2 : (n : Int) - 1 - k < (n : Int) := by omega
      have h3 : ((n : Int) - 1 - k).toNat = n - 1 - k := by omega
      have hsz := hbel.size
      go_wp2_with (at_builtin; refine wpList_app eB rfl _ _ rfl w.heap.size wr A' k c' _ rfl hown #[.bool (l[n - 1 - k]?.getD false)] rfl rfl (one_bool _) (by omega) (by unfold maxLen; omega) hsz ?_; rintro g cap w1 ⟨o1, b1, g1, y1, z1⟩)
      have o2 : w1.ownsRow w.heap.size 4 1 (.slice (some ⟨g, 0, none⟩) (k + 1) cap) (k + 1) (cB (l.reverse.take (k + 1))) := by
        rw [cB_snoc] at o1
        rw [rev_snocD l n k false hl hlt]
        exact o1
      have b2 := hbel.trans b1
      go_wp2
      go_roundw
      case rel => exact ⟨k + 1, some ⟨g, 0, none⟩, cap, by omega, by go_num, rfl, o2, b2⟩
      case measure => simp [intOf]; omega
    · obtain rfl : k = n := by omega
      rw [List.take_of_length_le (by simp; omega)] at hown
      have h1 : (k : Int) - 1 - k < 0 := by omega
      go_wp2
      go_ret
      exact ⟨A', c', rfl, hown, hbel⟩

/-- The table turned round, each entry the other way: its step is counted from the end. -/
theorem turned_step (l : List Bool) (n s : Nat) (hl : l.length = n) (h : Step (mk l) n s) : Step (mk (l.reverse.map (!·))) n (n - s) := by
  subst hl
  refine ⟨by omega, fun j hj => ?_⟩
  rw [mk_lt (by simpa using hj)]
  rw [List.getElem_map, List.getElem_reverse, ← mk_lt (l := l) (i := l.length - 1 - j) (by omega), h.2 _ (by omega)]
  have := h.1
  by_cases hc : s ≤ l.length - 1 - j
  · rw [decide_eq_true hc, decide_eq_false (by omega)]; rfl
  · rw [decide_eq_false hc, decide_eq_true (by omega)]; rfl

set_option maxHeartbeats 1000000 in
theorem wFnSearchTurned (A0 : Option Addr) (n0 c0 : Nat) (l0 : List Bool) (w : World) (r0 : Rd w w.heap.size 1 A0 n0 (cB l0)) (le0 : n0 ≤ c0) (b0 : c0 * 1 ≤ 140737488351232) :
    Calls Try.prog 9 #[.slice A0 n0 c0] w fun e w' => e = .returned (.bool true) ∧ Below w.heap.size w w' := by
  have hn : n0 ≤ 140737488351232 := by omega
  have hl := rdB_len r0
  have HL := Lib.hid hl
  clear hl
  go_enter Try.func9, Try.ntmps9
  go_wp2_with fail
  refine (Rising_any l0 A0 n0 c0 n0 w r0 (by omega) (by omega)).mono ?_
  rintro e w' ⟨b, hb, rfl, rfl⟩
  have HB := Lib.hid hb
  clear hb
  cases b
  · go_wp2
    go_ret
    exact ⟨rfl, Below.refl _ _⟩
  · go_wp2_with fail
    refine (turnedB_any l0 A0 n0 c0 w r0 hn).mono ?_
    rintro e w1 ⟨A1, c1, rfl, own1, bel1⟩
    have rt := Rd.of_own own1
    have HO := Lib.hid own1
    clear own1
    go_wp2_with fail
    go_loopw [4, 16] (fun v i wr => ∃ (k : Nat) (A' : Option Addr) (c' : Nat), k ≤ n0 ∧ i = .int .i64 k ∧ v = .slice A' k c' ∧ wr.ownsRow w1.heap.size 4 1 (.slice A' k c') k (cB ((l0.reverse.map (!·)).take k)) ∧ Below w1.heap.size w1 wr)
      (fun _ i _ => n0 - (intOf i).toNat)
    case atStart => exact ⟨0, none, 0, Nat.zero_le _, rfl, rfl, by simpa [cB] using own_nil _ _ _ _, Below.refl _ _⟩
    case round =>
      obtain ⟨k, A', c', hk, rfl, rfl, hown, hbel⟩ := hrel
      by_cases hlt : k < n0
      · obtain ⟨b, off, rfl, hb, hc⟩ := rdB_at (k := k) (rt.below hbel) hlt
        have hsz := hbel.size
        go_wp2_with (at_builtin; refine wpList_app eB rfl _ _ rfl w1.heap.size wr A' k c' _ rfl hown #[.bool (!(l0.reverse[k]?.getD false))] rfl rfl (one_bool _) (by omega) (by unfold maxLen; omega) hsz ?_; rintro g cap w2 ⟨o2, b2, g2, y2, z2⟩)
        have o3 : w2.ownsRow w1.heap.size 4 1 (.slice (some ⟨g, 0, none⟩) (k + 1) cap) (k + 1) (cB ((l0.reverse.map (!·)).take (k + 1))) := by
          rw [cB_snoc] at o2
          have hk' : k < l0.length := by rw [HL.out]; exact hlt
          rw [take_snocD _ k true (by simpa using hk'), List.getElem?_map]
          rw [show (Option.map (fun x => !x) l0.reverse[k]?).getD true = !(l0.reverse[k]?.getD false) by cases l0.reverse[k]? <;> rfl]
          exact o2
        have b3 := hbel.trans b2
        go_wp2
        go_roundw
        case rel => exact ⟨k + 1, some ⟨g, 0, none⟩, cap, by omega, by go_num, rfl, o3, b3⟩
        case measure => simp [intOf]; omega
      · obtain rfl : k = n0 := by omega
        rw [List.take_of_length_le (by simp; have := HL.out; omega)] at hown
        have r2 := Rd.of_own hown
        have belw := below_step bel1 hbel
        clear hown
        go_wp2_with fail
        refine (Search_any _ A' k c' k wr r2 (by omega)).mono ?_
        rintro e w2 ⟨r, hc, rfl, hb2⟩
        go_wp2_with fail
        refine (Search_any l0 A0 k c0 k w2 (r0.on (below_step belw hb2)) (by omega)).mono ?_
        rintro e w3 ⟨s, hs, rfl, hb3⟩
        have hst := hs.step (HB.out.1 (by first | rfl | trivial)).mono
        have hrs := (turned_step l0 k s HL.out hst).cut hc
        have hsk := hs.1
        clear hc hs hst HB HL HO
        subst hrs
        have hcast : ((k - s : Nat) : Int) = (k : Int) - s := by omega
        rw [hcast]
        clear hcast
        go_wp2
        go_ret
        exact ⟨by simp, below_step (below_step belw hb2) hb3⟩
end Go.Proofs.Ytdjlcpfjemmlgaa

/- FnFindIsSearch returns true: for every table. -/
import Derived.Test.YtdjlcpfjemmlgaaSigns
import Derived.Test.YtdjlcpfjemmlgaaElems
import Derived.Test.YtdjlcpfjemmlgaaOpen
namespace Go.Proofs.Ytdjlcpfjemmlgaa
open Go.RowKit

def np (s : Int) : Bool := decide (s ≤ 0)
theorem np_mk (l : List Int) (i : Nat) : mk (l.map np) i = notPos (cv l) i := by
  by_cases h : i < l.length
  · simp [mk, notPos, cv, np, h]
  · simp [mk, notPos, cv, h]
theorem np_snoc (l : List Int) (k : Nat) (h : k < l.length) : cB ((l.map np).take k) ++ (#[Value.bool (decide (l[k]?.getD 0 ≤ 0))] : Array Value).toList = cB ((l.map np).take (k + 1)) := by
  rw [take_snoc _ k (by simpa using h)]
  simp [cB, np, h]

set_option maxHeartbeats 1000000 in
theorem wFnFindIsSearch (A0 : Option Addr) (n0 c0 : Nat) (l0 : List Int) (w : World) (r0 : Rd w w.heap.size 1 A0 n0 (cZ l0)) (_z0 : ∀ y ∈ l0, InI y) (le0 : n0 ≤ c0) (b0 : c0 * 8 ≤ 140737488351232) :
    Calls Try.prog 13 #[.slice A0 n0 c0] w fun e w' => e = .returned (.bool true) ∧ Below w.heap.size w w' := by
  clear _z0
  have hn : n0 ≤ 17592186043904 := by omega
  have hl := rdZ_len r0
  have HL := Lib.hid hl
  clear hl
  go_enter Try.func13, Try.ntmps13
  go_wp2_with fail
  refine (Falling_any l0 A0 n0 c0 n0 w r0 (by omega) (by omega)).mono ?_
  rintro e w' ⟨b, hb, rfl, rfl⟩
  have HB := Lib.hid hb
  clear hb
  cases b
  · go_wp2
    go_ret
    exact ⟨rfl, Below.refl _ _⟩
  · go_wp2_with fail
    go_loopw [4, 17] (fun v i wr => ∃ (k : Nat) (A' : Option Addr) (c' : Nat), k ≤ n0 ∧ i = .int .i64 k ∧ v = .slice A' k c' ∧ wr.ownsRow w.heap.size 4 1 (.slice A' k c') k (cB ((l0.map np).take k)) ∧ Below w.heap.size w wr)
      (fun _ i _ => n0 - (intOf i).toNat)
    case atStart => exact ⟨0, none, 0, Nat.zero_le _, rfl, rfl, by simpa [cB] using own_nil _ _ _ _, Below.refl _ _⟩
    case round =>
      obtain ⟨k, A', c', hk, rfl, rfl, hown, hbel⟩ := hrel
      by_cases hlt : k < n0
      · obtain ⟨b, off, rfl, hb, hc⟩ := rdZ_at (k := k) (r0.below hbel) hlt
        have hsz := hbel.size
        go_wp2_with (at_builtin; refine wpList_app eB rfl _ _ rfl w.heap.size wr A' k c' _ rfl hown #[.bool (decide (l0[k]?.getD 0 ≤ 0))] rfl rfl (one_bool _) (by omega) (by unfold maxLen; omega) hsz ?_; rintro g cap w2 ⟨o2, b2, g2, y2, z2⟩)
        rw [np_snoc l0 k (by rw [HL.out]; exact hlt)] at o2
        have b3 := hbel.trans b2
        go_wp2
        go_roundw
        case rel => exact ⟨k + 1, some ⟨g, 0, none⟩, cap, by omega, by go_num, rfl, o2, b3⟩
        case measure => simp [intOf]; omega
      · obtain rfl : k = n0 := by omega
        rw [List.take_of_length_le (by simp; have := HL.out; omega)] at hown
        have r2 := Rd.of_own hown
        clear hown
        go_wp2_with fail
        refine (Find_any l0 A0 k c0 k wr (r0.on hbel) (by omega)).mono ?_
        rintro e w2 ⟨r, hc, rfl, hb2⟩
        go_wp2_with fail
        refine (Search_any _ A' k c' k w2 (r2.on hb2) (by omega)).mono ?_
        rintro e w3 ⟨s, hs, rfl, hb3⟩
        obtain rfl : r = s := ((hc.step (HB.out.1 (by first | rfl | trivial)).mono).cut (hs.congr fun i _ => np_mk l0 i)).symm
        clear hs HB
        have hrk := hc.1
        by_cases hlt2 : r < k
        · obtain ⟨b, off, rfl, hb, hcell⟩ := rdZ_at (k := r) (((r0.on hbel).on hb2).on hb3) hlt2
          have hF : Hid (fnd (cv l0) k r = (l0[r]?.getD 0 == 0)) := by
            unfold Hid fnd
            rw [cv_lt (by rw [HL.out]; exact hlt2)]
            by_cases h0 : l0[r]?.getD 0 = 0
            · rw [decide_eq_true ⟨hlt2, h0⟩]; simp [h0]
            · rw [decide_eq_false (fun h => h0 h.2), beq_eq_false_iff_ne.2 h0]
          clear hc
          rw [hF.out]
          clear hF
          go_wp2
          go_ret
          exact ⟨by simp, below_step (below_step hbel hb2) hb3⟩
        · have hF : Hid (fnd (cv l0) k r = false) := by simp [Hid, fnd]; omega
          have hd : decide (r < k) = false := by simp; omega
          clear hc
          rw [hF.out]
          clear hF
          go_wp2
          go_ret
          exact ⟨by simp, below_step (below_step hbel hb2) hb3⟩
end Go.Proofs.Ytdjlcpfjemmlgaa

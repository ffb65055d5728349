/- FnFindScaled returns true: for every table and every two numbers. -/
import Derived.Test.YtdjlcpfjemmlgaaSigns
import Derived.Test.YtdjlcpfjemmlgaaElems
import Derived.Test.YtdjlcpfjemmlgaaOpen
namespace Go.Proofs.Ytdjlcpfjemmlgaa
open Go.RowKit

theorem sc_sg (l : List Int) (up dn : Int) (hu : 1 ≤ up) (hd : dn ≤ -1) (i : Nat) : sg (l.map (scl up dn)) i = sg l i := by
  unfold sg cv
  by_cases h : i < l.length
  · simp only [List.getElem?_map, List.getElem?_eq_getElem h, Option.map_some, Option.getD_some]
    generalize l[i] = s
    unfold scl sgn
    split
    · rw [if_neg (by omega), if_pos (by omega), if_neg (by omega)]
    · split
      · rw [if_pos (by omega)]
      · rfl
  · simp [h]
theorem sc_np (l : List Int) (up dn : Int) (hu : 1 ≤ up) (hd : dn ≤ -1) (i : Nat) : notPos (cv (l.map (scl up dn))) i = notPos (cv l) i := by
  have h := sc_sg l up dn hu hd i
  unfold notPos
  rw [decide_eq_decide, ← sgn_le, ← sgn_le (cv l i)]
  unfold sg at h
  rw [h]
theorem sc_fnd (l : List Int) (up dn : Int) (hu : 1 ≤ up) (hd : dn ≤ -1) (n i : Nat) : fnd (cv (l.map (scl up dn))) n i = fnd (cv l) n i := by
  have h := sc_sg l up dn hu hd i
  unfold fnd
  rw [decide_eq_decide, ← sgn_zero, ← sgn_zero (cv l i)]
  unfold sg at h
  rw [h]

set_option maxHeartbeats 2000000 in
set_option maxRecDepth 100000 in
theorem wFnFindScaled (A0 : Option Addr) (n0 c0 : Nat) (l0 : List Int) (a1 a2 : Int) (w : World) (r0 : Rd w w.heap.size 1 A0 n0 (cZ l0)) (_z0 : ∀ y ∈ l0, InI y) (le0 : n0 ≤ c0) (b0 : c0 * 8 ≤ 140737488351232) (_i1 : InI a1) (_i2 : InI a2) :
    Calls Try.prog 11 #[.slice A0 n0 c0, .int .i64 a1, .int .i64 a2] w fun e w' => e = .returned (.bool true) ∧ Below w.heap.size w w' := by
  clear _z0 _i1 _i2
  have hn : n0 ≤ 17592186043904 := by omega
  have hl := rdZ_len r0
  have HL := Lib.hid hl
  clear hl
  by_cases h1 : a1 < 1
  · go_enter Try.func11, Try.ntmps11
    go_wp2
    go_ret
    exact ⟨rfl, Below.refl _ _⟩
  · have hd1 : decide (a1 < 1) = false := by simpa using h1
    by_cases h2 : -1 < a2
    · go_enter Try.func11, Try.ntmps11
      go_wp2
      go_ret
      exact ⟨rfl, Below.refl _ _⟩
    · have hd2 : decide (-1 < a2) = false := by simpa using h2
      go_enter Try.func11, Try.ntmps11
      go_wp2_with fail
      refine (Falling_any l0 A0 n0 c0 n0 w r0 (by omega) (by omega)).mono ?_
      rintro e w' ⟨b, hb, rfl, rfl⟩
      have HB := Lib.hid hb
      clear hb
      cases b
      · go_wp2
        go_ret
        exact ⟨rfl, Below.refl _ _⟩
      · go_wp2_with fail
        go_loopw [8, 33] (fun v i wr => ∃ (k : Nat) (A' : Option Addr) (c' : Nat), k ≤ n0 ∧ i = .int .i64 k ∧ v = .slice A' k c' ∧ wr.ownsRow w.heap.size 3 1 (.slice A' k c') k (cZ ((l0.map (scl a1 a2)).take k)) ∧ Below w.heap.size w wr)
          (fun _ i _ => n0 - (intOf i).toNat)
        case atStart => exact ⟨0, none, 0, Nat.zero_le _, rfl, rfl, by simpa [cZ] using own_nil _ _ _ _, Below.refl _ _⟩
        case round =>
          obtain ⟨k, A', c', hk, rfl, rfl, hown, hbel⟩ := hrel
          by_cases hlt : k < n0
          · obtain ⟨b, off, rfl, hb, hc⟩ := rdZ_at (k := k) (r0.below hbel) hlt
            have hsz := hbel.size
            have HX : Hid (∀ x, x = scl a1 a2 (l0[k]?.getD 0) → cZ ((l0.map (scl a1 a2)).take k) ++ (#[Value.int .i64 x] : Array Value).toList = cZ ((l0.map (scl a1 a2)).take (k + 1))) := fun x hx => sc_snoc l0 a1 a2 k x (by rw [HL.out]; exact hlt) hx
            generalize l0[k]?.getD 0 = s at hc HX
            rcases Int.lt_trichotomy s 0 with hs | rfl | hs
            · have HY := HX.out a2 (by unfold scl; rw [if_neg (by omega), if_pos hs])
              clear HX
              have HZ := Lib.hid HY
              clear HY
              go_wp2_with (at_builtin; refine wpList_app eZ rfl _ _ rfl w.heap.size wr A' k c' _ rfl hown #[.int .i64 a2] rfl rfl (one_int _ _) (by omega) (by unfold maxLen; omega) hsz ?_; rintro g cap w2 ⟨o2, b2, g2, y2, z2⟩)
              rw [HZ.out] at o2
              have b3 := hbel.trans b2
              go_wp2
              go_roundw
              case rel => exact ⟨k + 1, some ⟨g, 0, none⟩, cap, by omega, by go_num, rfl, o2, b3⟩
              case measure => simp [intOf]; omega
            · have HZ := Lib.hid (HX.out 0 (by simp [scl]))
              clear HX
              go_wp2_with (at_builtin; refine wpList_app eZ rfl _ _ rfl w.heap.size wr A' k c' _ rfl hown #[.int .i64 0] rfl rfl (one_int _ _) (by omega) (by unfold maxLen; omega) hsz ?_; rintro g cap w2 ⟨o2, b2, g2, y2, z2⟩)
              rw [HZ.out] at o2
              have b3 := hbel.trans b2
              go_wp2
              go_roundw
              case rel => exact ⟨k + 1, some ⟨g, 0, none⟩, cap, by omega, by go_num, rfl, o2, b3⟩
              case measure => simp [intOf]; omega
            · have HY := HX.out a1 (by unfold scl; rw [if_pos hs])
              clear HX
              have HZ := Lib.hid HY
              clear HY
              go_wp2_with (at_builtin; refine wpList_app eZ rfl _ _ rfl w.heap.size wr A' k c' _ rfl hown #[.int .i64 a1] rfl rfl (one_int _ _) (by omega) (by unfold maxLen; omega) hsz ?_; rintro g cap w2 ⟨o2, b2, g2, y2, z2⟩)
              rw [HZ.out] at o2
              have b3 := hbel.trans b2
              go_wp2
              go_roundw
              case rel => exact ⟨k + 1, some ⟨g, 0, none⟩, cap, by omega, by go_num, rfl, o2, b3⟩
              case measure => simp [intOf]; omega
          · obtain rfl : k = n0 := by omega
            rw [List.take_of_length_le (by simp; have := HL.out; omega)] at hown
            have r2 := Rd.of_own hown
            clear hown
            go_wp2_with fail
            refine (Find_any l0 A0 k c0 k wr (r0.on hbel) (by omega)).mono ?_
            rintro e w2 ⟨r, hc, rfl, hb2⟩
            go_wp2_with fail
            refine (Find_any _ A' k c' k w2 (r2.on hb2) (by omega)).mono ?_
            rintro e w3 ⟨s, hs, rfl, hb3⟩
            go_wp2_with fail
            refine (Found_any l0 A0 k c0 k w3 (((r0.on hbel).on hb2).on hb3) (by omega)).mono ?_
            rintro e w4 ⟨u, hu, rfl, rfl⟩
            have hst := hc.step (HB.out.1 (by first | rfl | trivial)).mono
            obtain rfl : s = r := hst.cut (hs.congr fun i _ => sc_np l0 a1 a2 (by omega) (by omega) i)
            obtain rfl := hst.first hu
            rw [sc_fnd l0 a1 a2 (by omega) (by omega)]
            clear hs HB hc hst hu
            go_wp2
            go_ret
            exact ⟨by simp, below_step (below_step hbel hb2) hb3⟩
end Go.Proofs.Ytdjlcpfjemmlgaa

/- FnLaterAgain returns true: for every list, script and two places. -/
import Derived.Test.YtdojnocmapkodaaStableSteps
import Derived.Test.YtdojnocmapkodaaJoinedO
import Derived.Test.YtdojnocmapkodaaLater
import Derived.Test.YtdojnocmapkodaaSame
import Derived.Test.YtdojnocmapkodaaOpenMore
import Derived.Deep.RegionHeld3
import Derived.IntWalk
namespace Go.Proofs.Ytdojnocmapkodaa
open Go.RowKit
attribute [local go_sem ↓] Go.wp_at_zero Go.wp_at_succ
theorem rd_takeT {w : World} {B n k : Nat} {A : Option Addr} {l : List Tab} (h : Rd w B 1 A n (l.map cT)) (hk : k ≤ n) : Rd w B 1 A k ((l.take k).map cT) := by
  have := h.take_ hk
  rw [Nat.mul_one] at this
  rw [List.map_take]
  exact this
theorem rd_dropT {w : World} {B n k : Nat} {A A' : Option Addr} {l : List Tab} (h : Rd w B 1 A n (l.map cT)) (hk : k ≤ n) (hA : k < n → A' = A.map (·.add k)) : Rd w B 1 A' (n - k) ((l.drop k).map cT) := by
  have := h.drop_ (A' := A') hk (by rw [Nat.mul_one]; exact hA)
  rw [Nat.mul_one] at this
  rw [List.map_drop]
  exact this
theorem later_law (ts : List Tab) (a b : Nat) (t : Tab) (hab : a < b) (ht : ts[b]? = some t) (l : List (Int × Int)) : steps ((ts.set a t).map Tab.r) l = steps (((ts.set a t).take a ++ (ts.set a t).drop (a + 1)).map Tab.r) l := by
  obtain ⟨hb, rfl⟩ := List.getElem?_eq_some_iff.1 ht
  rw [List.map_append, List.map_take, List.map_drop]
  refine steps_dup _ a b hab (by simpa using hb) ?_ l
  rw [List.getElem?_map, List.getElem?_map, List.getElem?_set_self (by omega), List.getElem?_set_ne (by omega), ht]

set_option linter.unusedSimpArgs false in
set_option maxHeartbeats 4000000 in
theorem wFnLaterAgain (A0 : Option Addr) (n0 c0 : Nat) (l0 : List (Int × Int)) (A1 : Option Addr) (n1 c1 : Nat) (ts : List Tab) (a2 a3 : Int) (w : World)
    (r0 : Rd w w.heap.size 2 A0 n0 (cI l0)) (_z0 : ∀ y ∈ l0, InI y.1 ∧ InI y.2) (le0 : n0 ≤ c0) (b0 : c0 * 16 ≤ 140737488351232)
    (r1 : RdS w w.heap.size A1 n1 ts) (_z1 : ∀ y ∈ ts, ∀ z ∈ y.r, InI z) (le1 : n1 ≤ c1) (b1 : c1 * 24 ≤ 140737488351232) (_i2 : InI a2) (_i3 : InI a3) :
    Calls Try.prog 4 #[.slice A0 n0 c0, .slice A1 n1 c1, .int .i64 a2, .int .i64 a3] w fun e w' => e = .returned (.bool true) ∧ Below w.heap.size w w' := by
  clear _z0 _z1 _i2 _i3
  have hn : n0 * 16 ≤ 140737488351232 := by omega
  have hn1 : n1 * 24 ≤ 140737488351232 := by omega
  have R0 := Lib.hid r0
  have R1 := Lib.hid r1
  clear r0 r1 le0 b0 le1 b1
  by_cases h1 : a2 < 0
  · go_enter Try.func4, Try.ntmps4
    go_wp2
    go_ret
    exact ⟨rfl, Below.refl _ _⟩
  have h1' : decide (a2 < 0) = false := by simpa using h1
  by_cases h2 : a3 ≤ a2
  · go_enter Try.func4, Try.ntmps4
    go_wp2
    go_ret
    exact ⟨rfl, Below.refl _ _⟩
  have h2' : decide (a3 ≤ a2) = false := by simpa using h2
  by_cases h3 : (n1 : Int) ≤ a3
  · go_enter Try.func4, Try.ntmps4
    go_wp2
    go_ret
    exact ⟨rfl, Below.refl _ _⟩
  have h3' : decide ((n1 : Int) ≤ a3) = false := by simpa using h3
  obtain ⟨a, rfl⟩ : ∃ a : Nat, a2 = a := ⟨a2.toNat, by omega⟩
  obtain ⟨b, rfl⟩ : ∃ b : Nat, a3 = b := ⟨a3.toNat, by omega⟩
  have hab : a < b := by omega
  have hbn : b < n1 := by omega
  have q0 : (0 : Int) ≤ (a : Int) := Int.natCast_nonneg _
  have q1 : (a : Int) < (n1 : Int) := by omega
  have q2 : (0 : Int) ≤ (b : Int) := Int.natCast_nonneg _
  have q3 : (b : Int) < (n1 : Int) := by omega
  obtain ⟨t, ht⟩ : ∃ t, ts[b]? = some t := ⟨ts[b]'(by rw [R1.out.len]; exact hbn), List.getElem?_eq_getElem _⟩
  have HLw := Lib.hid (later_law ts a b t hab ht l0)
  have HLt := Lib.hid R1.out.len
  have HTm : Hid (t ∈ ts) := List.mem_of_getElem? ht
  have HT := Lib.hid ht
  clear ht
  go_enter Try.func4, Try.ntmps4
  go_wp2_with fail
  all_goals
    clear h1 h1' h2 h2' h3 h3'
    refine (joined_orders ts [] A1 none n1 0 _ _ w R1.out.1 Rd.none_ (by omega)).mono ?_
    rintro e w1 ⟨A, c, rfl, o1, hb1⟩
    rw [Nat.add_zero, List.append_nil] at o1
    rw [Nat.add_zero]
    have hnc := own_le o1
    obtain ⟨g, rfl⟩ : ∃ g, A = some ⟨g, 0, none⟩ := by
      rcases o1.2 with ⟨h, h0⟩ | ⟨g, cap, cur, hv, _⟩
      · exfalso; omega
      · injection hv with hA; exact ⟨g, hA⟩
    obtain ⟨ta, tn, tc, R⟩ := t
    obtain ⟨us, hus⟩ : ∃ us, us = ts.set a ⟨ta, tn, tc, R⟩ := ⟨_, rfl⟩
    rw [← hus] at HLw
    have x1 : w1.cell? ⟨g, b, none⟩ = some (.slice ta tn tc) := by
      rw [o1.cellAt _ (by omega), List.getElem?_map, HT.out]; rfl
    have x2 : ∃ u, w1.cell? ⟨g, a, none⟩ = some u := ⟨cT (ts[a]'(by rw [HLt.out]; omega)), by
      rw [o1.cellAt _ (by omega), List.getElem?_map, List.getElem?_eq_getElem (by rw [HLt.out]; omega)]; rfl⟩
    obtain ⟨u2, x2⟩ := x2
    have f2 := o1.frozenAt a
    obtain ⟨s1, g1⟩ := o1.stored a (.slice ta tn tc)
    have hset : (ts.map cT).set a (.slice ta tn tc) = us.map cT := by rw [hus, List.map_set]; rfl
    rw [hset] at s1
    have hbs : Below w.heap.size w (w1.setCell ⟨g, a, none⟩ (.slice ta tn tc)) := hb1.setCell (p := ⟨g, a, none⟩) ((o1.lt g rfl).1) _
    have HUm : Hid (∀ t ∈ us, t ∈ ts) := fun t' ht' => by
      rw [hus] at ht'
      rcases List.mem_or_eq_of_mem_set ht' with h | h
      · exact h
      · rw [h]; exact HTm.out
    have HUl : Hid (us.length = n1) := by unfold Hid; rw [hus, List.length_set]; exact HLt.out
    clear hset g1 o1 hus
    go_wp2_with fail
    clear x1 x2 f2
    generalize w1.setCell ⟨g, a, none⟩ (.slice ta tn tc) = W at s1 hbs ⊢
    have RW := Lib.hid (Rd.of_own s1)
    have HS1 : Hid (∀ Wx, Below W.heap.size W Wx → RdS Wx Wx.heap.size (some ⟨g, 0, none⟩) n1 us) := fun Wx hb => ⟨RW.out.on hb, fun t' ht' => ((R1.out.2 t' (HUm.out t' ht')).on hbs).on hb⟩
    obtain ⟨a', ha'⟩ : ∃ a', a' = a + 1 := ⟨_, rfl⟩
    rw [← ha'] at HLw
    have hwr : IntKind.i64.wrap ((a : Int) + 1) = (a' : Int) := by rw [IntWalk.i64_in _ (by omega)]; omega
    have p1 : a' ≤ n1 := by omega
    have p2 : a ≤ n1 := by omega
    have p3 : ¬ c = a' := by omega
    have p4 : (a : Int) ≤ (c : Int) := by omega
    have p5 : (0 : Int) ≤ (a' : Int) := Int.natCast_nonneg _
    have p6 : (a' : Int) ≤ (n1 : Int) := by omega
    have p7 : (a' : Int) ≤ (c : Int) := by omega
    have p8 : (n1 : Int) ≤ (c : Int) := by omega
    have p9 : a + (n1 - a') ≤ n1 := by omega
    clear ha'
    have HT1 : Hid (∀ Wx, Below W.heap.size W Wx → Rd Wx Wx.heap.size 1 (some ⟨g, 0, none⟩) a ((us.take a).map cT)) := fun Wx hb => rd_takeT (RW.out.on hb) p2
    have HD1 : Hid (∀ A' Wx, (a' < n1 → A' = (some ⟨g, 0, none⟩ : Option Addr).map (·.add a')) → Below W.heap.size W Wx → Rd Wx Wx.heap.size 1 A' (n1 - a') ((us.drop a').map cT)) := fun A' Wx hA hb => rd_dropT (RW.out.on hb) p1 hA
    go_region_held3 (fun w' => Below W.heap.size W w')
      (first | (exact (Below.refl _ _).drew) | (go_split_ands; exact nx_step (by assumption) hbc))
      (first
        | (go_at_call 16; refine (joined_orders (us.take a) (us.drop a') (some ⟨g, 0, none⟩) _ a (n1 - a') _ _ _ (HT1.out _ (by assumption)) (HD1.out _ _ (by intro _; first | rfl | simp [Addr.add]) (by assumption)) (by omega)).mono ?_; rintro e w5 ⟨A5, c5, rfl, o5, hbc'⟩; have hbc := nx hbc'; clear hbc'))
    clear hwr
    have b5 : Below W.heap.size W w5 := by assumption
    have HS5 : Hid (RdS w5 w5.heap.size A5 (a + (n1 - a')) (us.take a ++ us.drop a')) := ⟨Rd.of_own o5, fun t' ht' => by
      refine ((R1.out.2 t' (HUm.out t' ?_)).on hbs).on b5
      rcases List.mem_append.1 ht' with h | h
      · exact List.mem_of_mem_take h
      · exact List.mem_of_mem_drop h⟩
    clear o5
    go_wp2_with (first
      | (go_at_call 17; ((with_reducible refine (StableSteps_any l0 A0 n0 c0 us (some ⟨g, 0, none⟩) n1 c _ ((R0.out.on hbs).on b5) (HS1.out _ b5) (by omega) (by omega)).mono ?_); rintro e w6 ⟨A6, c6, rfl, o6, hb6⟩); rw [HLw.out] at o6; have r6 := Lib.hid (Rd.of_own o6); clear o6)
      | (go_at_call 17; ((with_reducible refine (StableSteps_any l0 A0 n0 c0 _ A5 (a + (n1 - a')) c5 _ (((R0.out.on hbs).on b5).on hb6) (HS5.out.on hb6) (by omega) (by omega)).mono ?_); rintro e w7 ⟨A7, c7, rfl, o7, hb7⟩); have r7 := Lib.hid (Rd.of_own o7); clear o7)
      | (go_at_call 18; refine (same_items _ A6 A7 n0 c6 c7 _ (r6.out.on hb7) r7.out (by omega)).mono ?_; rintro e w8 ⟨rfl, hb8⟩))
    go_ret
    exact ⟨rfl, below_step hbs (below_step (below_step (below_step b5 hb6) hb7) hb8)⟩
end Go.Proofs.Ytdojnocmapkodaa

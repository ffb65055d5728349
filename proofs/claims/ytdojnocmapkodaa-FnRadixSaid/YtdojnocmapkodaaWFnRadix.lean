/- FnRadix returns true: for every list, base and number of digits. -/
import Derived.Test.YtdojnocmapkodaaStableSteps
import Derived.Test.YtdojnocmapkodaaDigits
import Derived.Test.YtdojnocmapkodaaTwo
import Derived.Test.YtdojnocmapkodaaSame
import Derived.Test.YtdojnocmapkodaaOpen
namespace Go.Proofs.Ytdojnocmapkodaa
open Go.RowKit
theorem apt_new2 {W w' : World} {base e size e2 size2 n m : Nat} {u v : Value} {xs ys : List Value} (hu : W.ownsRow base e size u n xs) (hv : w'.ownsRow W.heap.size e2 size2 v m ys) : Apt v u := by
  cases h : v.ownBlock with
  | none => exact .inl h
  | some k =>
    refine .inr fun e => ?_
    rw [h] at e
    have h1 := (hv.lt k h).1
    have h2 := (hu.lt k e.symm).2
    omega
/-- Tables of the call's own, apart from a row. -/
def OwnAll (wr : World) (base : Nat) (ts : List Tab) (v : Value) : Prop := ∀ t ∈ ts, wr.ownsRow base 3 1 (.slice t.a t.n t.c) t.n (cZ t.r) ∧ Apt (.slice t.a t.n t.c) v
theorem pow_bd (b d : Nat) (hb : b ≤ 8) (hd : d ≤ 4) : b ^ d ≤ 4096 := Nat.le_trans (Nat.pow_le_pow_left hb d) (Nat.le_trans (Nat.pow_le_pow_right (by omega) hd) (by omega))

set_option linter.unusedSimpArgs false in
set_option maxHeartbeats 4000000 in
theorem wFnRadix (A0 : Option Addr) (n0 c0 : Nat) (l0 : List (Int × Int)) (a1 a2 : Int) (w : World)
    (r0 : Rd w w.heap.size 2 A0 n0 (cI l0)) (_z0 : ∀ y ∈ l0, InI y.1 ∧ InI y.2) (le0 : n0 ≤ c0) (b0 : c0 * 16 ≤ 140737488351232) (_i1 : InI a1) (_i2 : InI a2) :
    Calls Try.prog 7 #[.slice A0 n0 c0, .int .i64 a1, .int .i64 a2] w fun e w' => e = .returned (.bool true) ∧ Below w.heap.size w w' := by
  clear _z0 _i1 _i2
  have hn : n0 * 16 ≤ 140737488351232 := by omega
  have ra := Lib.hid r0
  clear r0
  by_cases h1 : a1 < 2
  · go_enter Try.func7, Try.ntmps7
    go_wp2
    go_ret
    exact ⟨rfl, Below.refl _ _⟩
  have h1' : decide (a1 < 2) = false := by simpa using h1
  by_cases h2 : 8 < a1
  · go_enter Try.func7, Try.ntmps7
    go_wp2
    go_ret
    exact ⟨rfl, Below.refl _ _⟩
  have h2' : decide (8 < a1) = false := by simpa using h2
  by_cases h3 : a2 < 0
  · go_enter Try.func7, Try.ntmps7
    go_wp2
    go_ret
    exact ⟨rfl, Below.refl _ _⟩
  have h3' : decide (a2 < 0) = false := by simpa using h3
  by_cases h4 : 4 < a2
  · go_enter Try.func7, Try.ntmps7
    go_wp2
    go_ret
    exact ⟨rfl, Below.refl _ _⟩
  have h4' : decide (4 < a2) = false := by simpa using h4
  obtain ⟨b, rfl⟩ : ∃ b : Nat, a1 = b := ⟨a1.toNat, by omega⟩
  obtain ⟨d, rfl⟩ : ∃ d : Nat, a2 = d := ⟨a2.toNat, by omega⟩
  have hb1 : 2 ≤ b := by omega
  have hb2 : b ≤ 8 := by omega
  have hd : d ≤ 4 := by omega
  go_enter Try.func7, Try.ntmps7
  go_wp2_with fail
  clear h1 h1' h2 h2' h3 h3' h4 h4'
  go_loopw [7, 26] (fun v s wr => ∃ k p : Nat, k ≤ d ∧ Hid (p = b ^ k) ∧ s = .int .i64 k ∧ v = .int .i64 p ∧ w = wr) (fun _ s _ => d - (intOf s).toNat)
  case atStart => exact ⟨0, 1, Nat.zero_le _, rfl, rfl, rfl, rfl⟩
  case round =>
    obtain ⟨k, p, hk, hp, rfl, rfl, rfl⟩ := hrel
    by_cases hlt : k < d
    · obtain ⟨p', hp'⟩ : ∃ p', p' = p * b := ⟨_, rfl⟩
      have HP : Hid (p' = b ^ (k + 1)) := by unfold Hid; rw [hp', hp.out, Nat.pow_succ]
      have hpb : p' ≤ 4096 := by rw [HP.out]; exact pow_bd b (k + 1) hb2 (by omega)
      have hm : (p : Int) * (b : Int) = (p' : Int) := by rw [hp', Int.natCast_mul]
      clear hp'
      go_wp2
      go_roundw
      case rel => exact ⟨k + 1, p', by omega, HP, by go_num, rfl, by first | rfl | trivial⟩
      case measure => simp [intOf]; omega
    · obtain rfl : k = d := by omega
      have hpb : p ≤ 4096 := by rw [hp.out]; exact pow_bd b k hb2 (by omega)
      have hp1 : 1 ≤ p := by rw [hp.out]; exact Nat.pow_pos (by omega)
      go_wp2_with fail
      go_loopw [8, 9, 33] (fun v q s wr => ∃ (i u : Nat) (A : Option Addr) (c : Nat) (ts : List Tab), i ≤ k ∧ Hid (u = b ^ i) ∧ s = .int .i64 i ∧ v = .slice A i c ∧ q = .int .i64 u ∧ Hid (ts.map Tab.r = (List.range i).map fun j => digs p (b ^ j) b) ∧
        wr.ownsRow w.heap.size 25 1 (.slice A i c) i (ts.map cT) ∧ Hid (OwnAll wr w.heap.size ts (.slice A i c)) ∧ Below w.heap.size w wr) (fun _ _ s _ => k - (intOf s).toNat)
      case atStart => exact ⟨0, 1, none, 0, [], Nat.zero_le _, rfl, rfl, rfl, rfl, rfl, own_nil _ _ _ _, fun t ht => (by cases ht), Below.refl _ _⟩
      case round =>
        obtain ⟨i, u, A, c, ts, hi, hu, rfl, rfl, rfl, HT, hown, HO, hbel⟩ := hrel
        by_cases hli : i < k
        · have hub : u ≤ 4096 := by rw [hu.out]; exact pow_bd b i hb2 (by omega)
          have hu1 : 1 ≤ u := by rw [hu.out]; exact Nat.pow_pos (by omega)
          obtain ⟨u', hu'⟩ : ∃ u', u' = u * b := ⟨_, rfl⟩
          have HU : Hid (u' = b ^ (i + 1)) := by unfold Hid; rw [hu', hu.out, Nat.pow_succ]
          have hub' : u' ≤ 4096 := by rw [HU.out]; exact pow_bd b (i + 1) hb2 (by omega)
          have hm : (u : Int) * (b : Int) = (u' : Int) := by rw [hu', Int.natCast_mul]
          clear hu'
          go_wp2_with (first
            | (go_at_call 24; refine (digitsOf_any p u b _ (by omega) hu1 (by omega) (by omega) (by omega)).mono ?_; rintro e w1 ⟨B, cb, rfl, o1, hb1'⟩; have hS1 := own_on hown hb1'; have ap1 := Lib.hid (apt_new2 hown o1); have bl1 := below_step hbel hb1')
            | (at_builtin; refine wpList_app eO rfl _ _ rfl w.heap.size w1 A i c _ rfl hS1 #[.slice B p cb] rfl rfl (one_slice _ _ _) (by omega) (by unfold maxLen; omega) bl1.size ?_; rintro g cap w3 hL3; have HL3 := Lib.hid hL3; obtain ⟨o3, bl3, _, _, _⟩ := hL3))
          have HO3 : Hid (OwnAll w3 w.heap.size (ts ++ [Tab.mk B p cb (digs p u b)]) (.slice (some ⟨g, 0, none⟩) (i + 1) cap)) := fun t ht => by
            rcases List.mem_append.1 ht with ht | ht
            · have := HO.out t ht
              exact Lies.other HL3.out (own_on this.1 hb1') this.2
            · simp at ht
              subst ht
              exact Lies.other HL3.out (own_base o1 hbel.size) ap1.out
          have o4 : w3.ownsRow w.heap.size 25 1 (.slice (some ⟨g, 0, none⟩) (i + 1) cap) (i + 1) ((ts ++ [Tab.mk B p cb (digs p u b)]).map cT) := by
            rw [List.map_append]
            exact o3
          have HT2 : Hid ((ts ++ [Tab.mk B p cb (digs p u b)]).map Tab.r = (List.range (i + 1)).map fun j => digs p (b ^ j) b) := by
            unfold Hid
            rw [List.map_append, HT.out, List.range_succ, List.map_append, hu.out]
            rfl
          have b3 := bl1.trans bl3
          clear o3 bl3 hS1 o1 hb1' hown HO HL3 ap1
          go_wp2
          go_roundw
          case rel => exact ⟨i + 1, u', _, _, _, by omega, HU, by go_num, rfl, rfl, HT2, o4, HO3, b3⟩
          case measure => simp [intOf]; omega
        · obtain rfl : i = k := by omega
          have hS : RdS wr wr.heap.size A i ts := ⟨Rd.of_own hown, fun t ht => Rd.of_own (HO.out t ht).1⟩
          have HLw : Hid (steps (ts.map Tab.r) l0 = stab (rJ (digs p 1 p)) l0) := by
            unfold Hid
            rw [HT.out, hp.out]
            exact radix_law b i (by omega) l0
          have RS := Lib.hid hS
          clear hS hown HO
          go_wp2_with (first
            | (go_at_call 17; refine (StableSteps_any l0 A0 n0 c0 ts A i c _ (ra.out.on hbel) RS.out (by omega) (by omega)).mono ?_; rintro e w1 ⟨A5, c5, rfl, o5, hb5⟩; rw [HLw.out] at o5; have r5 := Lib.hid (Rd.of_own o5); clear o5)
            | (go_at_call 24; refine (digitsOf_any p 1 p _ (by omega) (by omega) (by omega) (by omega) (by omega)).mono ?_; rintro e w2 ⟨B6, c6, rfl, o6, hb6⟩; have r6 := Lib.hid (Rd.of_own o6); clear o6)
            | (go_at_call 13; refine (Stable_any (digs p 1 p) B6 p c6 l0 A0 n0 c0 _ r6.out (ra.out.on (below_step (below_step hbel hb5) hb6)) (by omega)).mono ?_; rintro e w7 ⟨A7, c7, rfl, o7, hb7⟩; have r7 := Lib.hid (Rd.of_own o7); clear o7)
            | (go_at_call 18; refine (same_items _ A5 A7 n0 c5 c7 _ (r5.out.on (below_step hb6 hb7)) r7.out (by omega)).mono ?_; rintro e w8 ⟨rfl, hb8⟩))
          go_ret
          exact ⟨rfl, below_step (below_step (below_step (below_step hbel hb5) hb6) hb7) hb8⟩
end Go.Proofs.Ytdojnocmapkodaa

/- FnTwoLevels returns true: for every list, item, order and size. -/
import Derived.Test.YtdojnocmapkodaaImplStable
import Derived.Test.YtdojnocmapkodaaTwoEnds
import Derived.Test.YtdojnocmapkodaaLFirst
import Derived.Test.YtdojnocmapkodaaLPast
import Derived.Test.YtdojnocmapkodaaSteps
import Derived.Test.YtdojnocmapkodaaOpen
import Derived.Deep.RegionHeld3
import Derived.IntWalk
namespace Go.Proofs.Ytdojnocmapkodaa
open Go.RowKit
attribute [local go_sem ↓] Go.wp_at_zero Go.wp_at_succ
theorem cI_snocT (l : List (Int × Int)) (x : Int × Int) : cI l ++ (#[Value.int .i64 x.1, .int .i64 x.2] : Array Value).toList = cI (l ++ [x]) := by simp [cI]
theorem cI_takeT (l : List (Int × Int)) (k : Nat) : (cI l).take (k * 2) = cI (l.take k) := by
  induction l generalizing k with
  | nil => simp [cI]
  | cons x l ih =>
    cases k with
    | zero => simp [cI]
    | succ k => rw [show (k + 1) * 2 = k * 2 + 1 + 1 by omega]; simp only [cI, List.flatMap_cons, List.cons_append, List.nil_append, List.take_succ_cons]; have := ih k; unfold cI at this; rw [this]
theorem cI_dropT (l : List (Int × Int)) (k : Nat) : (cI l).drop (k * 2) = cI (l.drop k) := by
  induction l generalizing k with
  | nil => simp [cI]
  | cons x l ih =>
    cases k with
    | zero => simp [cI]
    | succ k => rw [show (k + 1) * 2 = k * 2 + 1 + 1 by omega]; simp only [cI, List.flatMap_cons, List.cons_append, List.nil_append, List.drop_succ_cons]; have := ih k; unfold cI at this; rw [this]
theorem rd_partI {w : World} {B n a e : Nat} {A A' : Option Addr} {l : List (Int × Int)} (h : Rd w B 2 A n (cI l)) (hae : a ≤ e) (hen : e ≤ n) (hA : a < n → A' = A.map (·.add (a * 2))) : Rd w B 2 A' (e - a) (cI ((l.drop a).take (e - a))) := by
  have h1 := h.drop_ (k := a) (by omega) hA
  rw [cI_dropT] at h1
  have h2 := h1.take_ (k := e - a) (by omega)
  rw [cI_takeT] at h2
  exact h2
theorem part_addr (b o a c : Nat) (h : a < c) : (if c = a then some (⟨b, o, none⟩ : Addr) else some ⟨b, o + a * 2, none⟩) = (some (⟨b, o, none⟩ : Addr)).map (·.add (a * 2)) := by
  rw [if_neg (by omega)]
  show some _ = some _
  unfold Addr.add
  split
  · rename_i h0
    rw [h0]
    rfl
  · rfl

set_option linter.unusedSimpArgs false in
set_option maxRecDepth 100000 in
set_option maxHeartbeats 4000000 in
theorem wFnTwoLevels (A0 : Option Addr) (n0 c0 : Nat) (l0 : List (Int × Int)) (x1 : Int × Int) (A2 : Option Addr) (n2 c2 : Nat) (R : List Int) (a3 : Int) (w : World)
    (r0 : Rd w w.heap.size 2 A0 n0 (cI l0)) (_z0 : ∀ y ∈ l0, InI y.1 ∧ InI y.2) (le0 : n0 ≤ c0) (b0 : c0 * 16 ≤ 140737488351232) (_i1 : InI x1.1 ∧ InI x1.2)
    (r2 : Rd w w.heap.size 1 A2 n2 (cZ R)) (_z2 : ∀ y ∈ R, InI y) (_le2 : n2 ≤ c2) (_b2 : c2 * 8 ≤ 140737488351232) (_i3 : InI a3) :
    Calls Try.prog 10 #[.slice A0 n0 c0, .agg #[.int .i64 x1.1, .int .i64 x1.2], .agg #[.slice A2 n2 c2], .int .i64 a3] w fun e w' => e = .returned (.bool true) ∧ Below w.heap.size w w' := by
  clear _z0 _z2 _le2 _b2 _i1 _i3
  have hn : n0 * 16 ≤ 140737488351232 := by omega
  have HL := Lib.hid (rdI_len r0)
  have hb0 := below_alloc2 w (.cells #[.int .i64 x1.1, .int .i64 x1.2] 27) (.cells #[.slice A2 n2 c2] 25)
  have d0 : ((w.alloc (.cells #[.int .i64 x1.1, .int .i64 x1.2] 27)).alloc (.cells #[.slice A2 n2 c2] 25)).cell? ⟨w.heap.size, 0, none⟩ = some (.int .i64 x1.1) := by simp [go_sem]
  have d1 : ((w.alloc (.cells #[.int .i64 x1.1, .int .i64 x1.2] 27)).alloc (.cells #[.slice A2 n2 c2] 25)).cell? ⟨w.heap.size, 1, none⟩ = some (.int .i64 x1.2) := by simp [go_sem]
  have d2 : ((w.alloc (.cells #[.int .i64 x1.1, .int .i64 x1.2] 27)).alloc (.cells #[.slice A2 n2 c2] 25)).cell? ⟨w.heap.size + 1, 0, none⟩ = some (.slice A2 n2 c2) := by simp [go_sem]
  have ra := Lib.hid (r0.on hb0)
  have rr := Lib.hid (r2.on hb0)
  clear r0 r2 le0 b0
  by_cases ha : a3 < 1
  · go_enter Try.func10, Try.ntmps10
    go_wp2
    go_ret
    exact ⟨rfl, hb0⟩
  have ha' : decide (a3 < 1) = false := by simpa using ha
  obtain ⟨s, hs⟩ : ∃ s : Nat, (s : Int) = min a3 ((n0 : Int) + 1) := ⟨(min a3 ((n0 : Int) + 1)).toNat, by omega⟩
  have hs1 : 1 ≤ s := by omega
  have hs2 : s ≤ n0 + 1 := by omega
  have hmin : (if (n0 : Int) + 1 < a3 then (n0 : Int) + 1 else a3) = (s : Int) := by split <;> omega
  clear hs
  go_enter Try.func10, Try.ntmps10
  go_wp2_with fail
  generalize (w.alloc (.cells #[.int .i64 x1.1, .int .i64 x1.2] 27)).alloc (.cells #[.slice A2 n2 c2] 25) = W0 at *
  refine (Stable_any R A2 n2 c2 l0 A0 n0 c0 _ rr.out ra.out (by omega)).mono ?_
  rintro e W ⟨A4, c4, rfl, o4, hb1⟩
  have HC4 : Hid (n0 ≤ c4) := own_le o4
  have rs := Lib.hid (Rd.of_own o4)
  have rq := Lib.hid (rr.out.on hb1)
  have e0 := cell_on hb1 d0
  have e1 := cell_on hb1 d1
  have e2 := cell_on hb1 d2
  have bw := below_step hb0 hb1
  clear o4 ra rr d0 d1 d2 hb0 hb1
  obtain ⟨m, hm⟩ : ∃ m, m = stab (rJ R) l0 := ⟨_, rfl⟩
  have HS : Hid (Srt (rI R) m) := by unfold Hid; rw [hm]; exact stab_srt (rJ R) l0
  have HM : Hid (m.length = n0) := by unfold Hid; rw [hm, stab_len]; exact HL.out
  rw [← hm] at rs
  clear hm HL
  go_wp2_with fail
  clear ha' ha hmin
  go_loopw [10, 11] (fun v t wr => ∃ (j q : Nat) (B : Option Addr) (d : Nat), j ≤ n0 ∧ q ≤ n0 + s ∧ t = .int .i64 q ∧ v = .slice B j d ∧ wr.ownsRow W.heap.size 27 2 (.slice B j d) j (cI (endsL m n0 s j)) ∧ Hid (q = j * s) ∧ Hid (j ≤ parts n0 s) ∧ Below W.heap.size W wr) (fun _ t _ => n0 - (intOf t).toNat)
  case atStart => exact ⟨0, 0, none, 0, Nat.zero_le _, Nat.zero_le _, rfl, rfl, own_nil _ _ _ _, by unfold Hid; omega, Nat.zero_le _, Below.refl _ _⟩
  case round =>
    obtain ⟨j, q, B, d, hj, hq, rfl, rfl, hown, HQ, HJ, hbel⟩ := hrel
    by_cases hlt : q < n0
    · have hj1 : j < n0 := parts_le (s := s) (by omega) (by rw [← HQ.out]; exact hlt)
      have HJ2 : Hid (j + 1 ≤ parts n0 s) := (parts_lt (by omega)).2 (by rw [← HQ.out]; exact hlt)
      obtain ⟨t, ht⟩ : ∃ t, t = q + s := ⟨_, rfl⟩
      have hw : (q : Int) + (s : Int) = (t : Int) := by omega
      obtain ⟨e, he⟩ : ∃ e, e = min t n0 - 1 := ⟨_, rfl⟩
      have hen : e < n0 := by omega
      have hif : (if (n0 : Int) < (t : Int) then (n0 : Int) else (t : Int)) = (e : Int) + 1 := by split <;> omega
      have hif2 : (if n0 < t then (n0 : Int) else (t : Int)) = (e : Int) + 1 := by split <;> omega
      have T := Lib.hid (endsL_snoc m n0 s j)
      rw [← HQ.out, ← ht, ← he] at T
      have HQ2 : Hid (t = (j + 1) * s) := by unfold Hid; rw [ht, HQ.out, Nat.add_mul, Nat.one_mul]
      have htn : t ≤ n0 + s := by omega
      have htq : q < t := by omega
      clear ht he
      obtain ⟨bx, ox, rfl, _, hc1, hc2⟩ := rdI_at (k := e) (rs.out.on hbel) hen
      obtain ⟨x, hx⟩ : ∃ x, x = it m e := ⟨_, rfl⟩
      rw [← hx] at hc1 hc2 T
      clear hx
      have q0 : (0 : Int) ≤ (e : Int) := Int.natCast_nonneg _
      have q1 : (e : Int) < (n0 : Int) := by omega
      go_wp2_with (at_builtin; refine wpList_app eI rfl _ _ rfl W.heap.size wr B j d _ rfl hown #[.int .i64 x.1, .int .i64 x.2] rfl rfl (one_two _ _ _ _) (by omega) (by unfold maxLen; omega) hbel.size ?_; rintro g cap w5 ⟨o5, bl5, _, _, _⟩)
      rw [cI_snocT, ← T.out] at o5
      have b5 := hbel.trans bl5
      clear hif hif2 hown
      go_roundw
      case rel => exact ⟨j + 1, t, some ⟨g, 0, none⟩, cap, by omega, htn, by go_num, rfl, o5, HQ2, HJ2, b5⟩
      case measure => simp [intOf]; omega
    · have hjp : Hid (j = parts n0 s) := by
        have h1 := HJ.out
        have h2 : ¬ j < parts n0 s := fun h => hlt (by rw [HQ.out]; exact (parts_lt (by omega)).1 h)
        unfold Hid; omega
      obtain ⟨E, hE⟩ : ∃ E, E = endsL m n0 s j := ⟨_, rfl⟩
      have HTwo : Hid (∀ (P : Int × Int → Bool) (f : Nat), Step (fun i => P (it m i)) n0 f → (f = n0 ∧ Step (fun t => P (it E t)) j j) ∨
          (∃ p a e r, f < n0 ∧ p < j ∧ p * s = a ∧ (p + 1) * s = a + s ∧ e = min (a + s) n0 ∧ a < e ∧ a + r = f ∧ r < e - a ∧ Step (fun t => P (it E t)) j p ∧ Step (fun i => P (it ((m.drop a).take (e - a)) i)) (e - a) r)) := fun P f h => by
        have := two_all (s := s) (by omega) h
        rw [← hjp.out, ← hE] at this
        exact this
      rw [← hE] at hown
      clear HJ HQ hE hjp hq
      have hb2 := hbel.alloc hbel.size (.cells #[.bool false, .bool true] 4)
      have al := below_alloc1 wr (.cells #[.bool false, .bool true] 4)
      have y0 : (wr.alloc (.cells #[.bool false, .bool true] 4)).cell? ⟨wr.heap.size, 0, none⟩ = some (.bool false) := by simp [go_sem]
      have y1 : (wr.alloc (.cells #[.bool false, .bool true] 4)).cell? ⟨wr.heap.size, 1, none⟩ = some (.bool true) := by simp [go_sem]
      have rE := Lib.hid ((Rd.of_own hown).on al)
      have rs2 := Lib.hid (rs.out.on hb2)
      have rq2 := Lib.hid (rq.out.on hb2)
      have t0 := cell_on hb2 e0
      have t1 := cell_on hb2 e1
      have t2 := cell_on hb2 e2
      have bw2 := below_step bw hb2
      clear hown hbel hb2 al rs rq e0 e1 e2 bw
      go_wp2_with fail
      generalize wr.alloc (.cells #[.bool false, .bool true] 4) = V at *
      go_loopw [50] (fun t wz => ∃ k : Nat, k ≤ 2 ∧ t = .int .i64 k ∧ Below V.heap.size V wz) (fun t _ => 2 - (intOf t).toNat)
      case atStart => exact ⟨0, by omega, rfl, Below.refl _ _⟩
      case round =>
        obtain ⟨k, hk, rfl, hbel⟩ := hrel
        obtain ⟨Z, rfl⟩ : ∃ Z : World, Z = wr := ⟨_, rfl⟩
        have z0 := cell_on hbel y0
        have z1 := cell_on hbel y1
        have f0 := cell_on hbel t0
        have f1 := cell_on hbel t1
        have f2 := cell_on hbel t2
        have sE := Lib.hid (rE.out.on hbel)
        have ss := Lib.hid (rs2.out.on hbel)
        have sq := Lib.hid (rq2.out.on hbel)
        have bz := below_step bw2 hbel
        clear y0 y1 t0 t1 t2 rE rs2 rq2
        obtain rfl | rfl | rfl : k = 0 ∨ k = 1 ∨ k = 2 := by omega
        -- ROUNDS2
        · have hst : Hid (Step (pFirst R m x1) n0 (less R m x1.1)) := by
            have := first_step HS.out x1
            rw [HM.out] at this
            exact this
          obtain ⟨f, hf⟩ : ∃ f, f = less R m x1.1 := ⟨_, rfl⟩
          rw [← hf] at hst
          clear hf
          rcases HTwo.out (fun y => !decide (rk R y.1 < rk R x1.1)) f hst.out with ⟨hfn, h1⟩ | ⟨p, a, e, r, hfn, hp, hpa, hpa1, he, hae, har, hre, h1, h2⟩
          · have H1 : Hid (Step (pFirst R E x1) j j) := h1
            rw [hfn] at hst
            clear h1 hfn HTwo f
            go_wp2_with fail
            refine (SearchFirst_any R A2 n2 c2 E B j d x1 _ sq.out sE.out (by omega)).mono ?_
            rintro ex w3 ⟨r1, hcut, rfl, hb3⟩
            obtain rfl : j = r1 := (H1.out.cut hcut).symm
            clear hcut H1
            have g0 := cell_on hb3 f0
            have g1 := cell_on hb3 f1
            have g2 := cell_on hb3 f2
            have v0 := cell_on hb3 z0
            have v1 := cell_on hb3 z1
            go_wp2_with fail
            refine (SearchFirst_any R A2 n2 c2 m A4 n0 c4 x1 _ (sq.out.on hb3) (ss.out.on hb3) (by omega)).mono ?_
            rintro ex w4 ⟨r2, hcut, rfl, hb4⟩
            obtain rfl : n0 = r2 := (hst.out.cut hcut).symm
            clear hcut hst
            go_wp2_with fail
            go_roundw
            case rel => exact ⟨1, by omega, by go_num, below_step hbel (below_step hb3 hb4)⟩
            case measure => simp [intOf]
          · have H1 : Hid (Step (pFirst R E x1) j p) := h1
            have H2 : Hid (Step (pFirst R ((m.drop a).take (e - a)) x1) (e - a) r) := h2
            clear h1 h2 HTwo
            go_wp2_with fail
            refine (SearchFirst_any R A2 n2 c2 E B j d x1 _ sq.out sE.out (by omega)).mono ?_
            rintro ex w3 ⟨r1, hcut, rfl, hb3⟩
            obtain rfl : p = r1 := (H1.out.cut hcut).symm
            clear hcut H1
            have g0 := cell_on hb3 f0
            have g1 := cell_on hb3 f1
            have g2 := cell_on hb3 f2
            have v0 := cell_on hb3 z0
            have v1 := cell_on hb3 z1
            obtain ⟨z, hz⟩ : ∃ z, z = a + s := ⟨_, rfl⟩
            rw [← hz] at hpa1 he
            have hzb : z ≤ n0 + n0 + 1 := by omega
            have hm1 : (p : Int) * (s : Int) = (a : Int) := by rw [← hpa]; exact (Int.natCast_mul p s).symm
            have hm2 : ((p : Int) + 1) * (s : Int) = (z : Int) := by rw [← hpa1]; exact (Int.natCast_mul (p + 1) s).symm
            have hif : (if (n0 : Int) < (z : Int) then (n0 : Int) else (z : Int)) = (e : Int) := by split <;> omega
            have hif2 : (if n0 < z then (n0 : Int) else (z : Int)) = (e : Int) := by split <;> omega
            have hen : e ≤ n0 := by omega
            have hec := HC4.out
            clear hpa hpa1 he hz
            go_wp2_with fail
            obtain ⟨bx, ox, rfl, _⟩ := rdI_at (k := a) ss.out (by omega)
            have k0 : (0 : Int) ≤ (a : Int) := Int.natCast_nonneg _
            have k1 : (a : Int) ≤ (e : Int) := by omega
            have k2 : (e : Int) ≤ (c4 : Int) := by omega
            have k3 : (a : Int) < (c4 : Int) := by omega
            have j1 : IntKind.i64.wrap ((p : Int) * (s : Int)) = (a : Int) := by rw [hm1, IntWalk.i64_in _ (by omega)]
            have j2 : IntKind.i64.wrap ((p : Int) + 1) = (p : Int) + 1 := IntWalk.i64_in _ (by omega)
            have j3 : IntKind.i64.wrap (((p : Int) + 1) * (s : Int)) = (z : Int) := by rw [hm2, IntWalk.i64_in _ (by omega)]
            have j4 : IntKind.i64.wrap ((a : Int) + (r : Int)) = (f : Int) := by rw [IntWalk.i64_in _ (by omega)]; omega
            clear hm1 hm2
            refine wp_region_held_drew (S := fun w' => w'.cell? ⟨w.heap.size, 0, none⟩ = some (.int .i64 x1.1) ∧ w'.cell? ⟨w.heap.size, 1, none⟩ = some (.int .i64 x1.2) ∧ w'.cell? ⟨w.heap.size + 1, 0, none⟩ = some (.slice A2 n2 c2)) (by kernel_rfl) ⟨g0, g1, g2⟩ (fun hHeld => ?_)
            ((refine wpAnyH_take (i := 0) (v := ?_) rfl (by kernel_rfl) (by kernel_rfl) (by kernel_rfl) (fun _ _ _ h => h) (Or.inl ⟨by kernel_rfl, ?_⟩) (by assumption) ?_; rotate_left; (focus ((try simp only [List.getElem_toArray, List.getElem_cons_zero, List.getElem_cons_succ]); intro w hSw; (try dsimp only at hSw); go_simp; all_goals (with_reducible rfl))); (try simp only [List.getElem_toArray, List.getElem_cons_zero, List.getElem_cons_succ, Act.put, List.setIfInBounds_toArray, List.set_cons_zero, List.set_cons_succ])); (refine wpAnyH_take (i := 1) (v := ?_) rfl (by kernel_rfl) (by kernel_rfl) (by kernel_rfl) (fun _ _ _ h => h) (Or.inl ⟨by kernel_rfl, ?_⟩) (by assumption) ?_; rotate_left; (focus ((try simp only [List.getElem_toArray, List.getElem_cons_zero, List.getElem_cons_succ]); intro w hSw; (try dsimp only at hSw); go_simp; all_goals (with_reducible rfl))); (try simp only [List.getElem_toArray, List.getElem_cons_zero, List.getElem_cons_succ, Act.put, List.setIfInBounds_toArray, List.set_cons_zero, List.set_cons_succ])); (refine wpAnyH_take (i := 2) (v := ?_) rfl (by kernel_rfl) (by kernel_rfl) (by kernel_rfl) (fun _ _ _ h => h) (Or.inl ⟨by kernel_rfl, ?_⟩) (by assumption) ?_; rotate_left; (focus ((try simp only [List.getElem_toArray, List.getElem_cons_zero, List.getElem_cons_succ]); intro w hSw; (try dsimp only at hSw); go_simp; all_goals (with_reducible rfl))); (try simp only [List.getElem_toArray, List.getElem_cons_zero, List.getElem_cons_succ, Act.put, List.setIfInBounds_toArray, List.set_cons_zero, List.set_cons_succ])); (refine wpAnyH_take (i := 3) (v := ?_) rfl (by kernel_rfl) (by kernel_rfl) (by kernel_rfl) (fun _ _ _ h => h) (Or.inl ⟨by kernel_rfl, ?_⟩) (by assumption) ?_; rotate_left; (focus ((try simp only [List.getElem_toArray, List.getElem_cons_zero, List.getElem_cons_succ]); intro w hSw; (try dsimp only at hSw); go_simp; all_goals (with_reducible rfl))); (try simp only [List.getElem_toArray, List.getElem_cons_zero, List.getElem_cons_succ, Act.put, List.setIfInBounds_toArray, List.set_cons_zero, List.set_cons_succ])); (refine wpAnyH_take (i := 4) (v := ?_) rfl (by kernel_rfl) (by kernel_rfl) (by kernel_rfl) (fun _ _ _ h => h) (Or.inl ⟨by kernel_rfl, ?_⟩) (by assumption) ?_; rotate_left; (focus ((try simp only [List.getElem_toArray, List.getElem_cons_zero, List.getElem_cons_succ]); intro w hSw; (try dsimp only at hSw); go_simp; all_goals (with_reducible rfl))); (try simp only [List.getElem_toArray, List.getElem_cons_zero, List.getElem_cons_succ, Act.put, List.setIfInBounds_toArray, List.set_cons_zero, List.set_cons_succ])); (refine wpAnyH_take (i := 5) (v := ?_) rfl (by kernel_rfl) (by kernel_rfl) (by kernel_rfl) (fun _ _ _ h => h) (Or.inl ⟨by kernel_rfl, ?_⟩) (by assumption) ?_; rotate_left; (focus ((try simp only [List.getElem_toArray, List.getElem_cons_zero, List.getElem_cons_succ]); intro w hSw; (try dsimp only at hSw); go_simp; all_goals (with_reducible rfl))); (try simp only [List.getElem_toArray, List.getElem_cons_zero, List.getElem_cons_succ, Act.put, List.setIfInBounds_toArray, List.set_cons_zero, List.set_cons_succ])); (refine wpAnyH_take (i := 6) (v := ?_) rfl (by kernel_rfl) (by kernel_rfl) (by kernel_rfl) (fun _ _ _ h => h) (Or.inl ⟨by kernel_rfl, ?_⟩) (by assumption) ?_; rotate_left; (focus ((try simp only [List.getElem_toArray, List.getElem_cons_zero, List.getElem_cons_succ]); intro w hSw; (try dsimp only at hSw); go_simp; all_goals (with_reducible rfl))); (try simp only [List.getElem_toArray, List.getElem_cons_zero, List.getElem_cons_succ, Act.put, List.setIfInBounds_toArray, List.set_cons_zero, List.set_cons_succ])); (refine wpAnyH_take (i := 7) (v := ?_) rfl (by kernel_rfl) (by kernel_rfl) (by kernel_rfl) (fun _ _ _ h => h) (Or.inl ⟨by kernel_rfl, ?_⟩) (by assumption) ?_; rotate_left; (focus ((try simp only [List.getElem_toArray, List.getElem_cons_zero, List.getElem_cons_succ]); intro w hSw; (try dsimp only at hSw); go_simp; all_goals (with_reducible rfl))); (try simp only [List.getElem_toArray, List.getElem_cons_zero, List.getElem_cons_succ, Act.put, List.setIfInBounds_toArray, List.set_cons_zero, List.set_cons_succ])); (refine wpAnyH_take (i := 8) (v := ?_) rfl (by kernel_rfl) (by kernel_rfl) (by kernel_rfl) (fun _ _ _ h => h) (Or.inl ⟨by kernel_rfl, ?_⟩) (by assumption) ?_; rotate_left; (focus ((try simp only [List.getElem_toArray, List.getElem_cons_zero, List.getElem_cons_succ]); intro w hSw; (try dsimp only at hSw); go_simp; all_goals (with_reducible rfl))); (try simp only [List.getElem_toArray, List.getElem_cons_zero, List.getElem_cons_succ, Act.put, List.setIfInBounds_toArray, List.set_cons_zero, List.set_cons_succ])); (refine wpAnyH_take (i := 9) (v := ?_) rfl (by kernel_rfl) (by kernel_rfl) (by kernel_rfl) (fun _ _ _ h => h) (Or.inl ⟨by kernel_rfl, ?_⟩) (by assumption) ?_; rotate_left; (focus ((try simp only [List.getElem_toArray, List.getElem_cons_zero, List.getElem_cons_succ]); intro w hSw; (try dsimp only at hSw); go_simp; all_goals (with_reducible rfl))); (try simp only [List.getElem_toArray, List.getElem_cons_zero, List.getElem_cons_succ, Act.put, List.setIfInBounds_toArray, List.set_cons_zero, List.set_cons_succ])); (refine wpAnyH_take (i := 10) (v := ?_) rfl (by kernel_rfl) (by kernel_rfl) (by kernel_rfl) (fun _ _ _ h => h) (Or.inl ⟨by kernel_rfl, ?_⟩) (by assumption) ?_; rotate_left; (focus ((try simp only [List.getElem_toArray, List.getElem_cons_zero, List.getElem_cons_succ]); intro w hSw; (try dsimp only at hSw); go_simp; all_goals (with_reducible rfl))); (try simp only [List.getElem_toArray, List.getElem_cons_zero, List.getElem_cons_succ, Act.put, List.setIfInBounds_toArray, List.set_cons_zero, List.set_cons_succ])); (refine wpAnyH_take (i := 11) (v := ?_) rfl (by kernel_rfl) (by kernel_rfl) (by kernel_rfl) (fun _ _ _ h => h) (Or.inl ⟨by kernel_rfl, ?_⟩) (by assumption) ?_; rotate_left; (focus ((try simp only [List.getElem_toArray, List.getElem_cons_zero, List.getElem_cons_succ]); intro w hSw; (try dsimp only at hSw); go_simp; all_goals (with_reducible rfl))); (try simp only [List.getElem_toArray, List.getElem_cons_zero, List.getElem_cons_succ, Act.put, List.setIfInBounds_toArray, List.set_cons_zero, List.set_cons_succ])); (refine wpAnyH_take (i := 12) (v := ?_) rfl (by kernel_rfl) (by kernel_rfl) (by kernel_rfl) (fun _ _ _ h => h) (Or.inl ⟨by kernel_rfl, ?_⟩) (by assumption) ?_; rotate_left; (focus ((try simp only [List.getElem_toArray, List.getElem_cons_zero, List.getElem_cons_succ]); intro w hSw; (try dsimp only at hSw); go_simp; all_goals (with_reducible rfl))); (try simp only [List.getElem_toArray, List.getElem_cons_zero, List.getElem_cons_succ, Act.put, List.setIfInBounds_toArray, List.set_cons_zero, List.set_cons_succ])); (refine wpAnyH_take (i := 13) (v := ?_) rfl (by kernel_rfl) (by kernel_rfl) (by kernel_rfl) (fun _ _ _ h => h) (Or.inl ⟨by kernel_rfl, ?_⟩) (by assumption) ?_; rotate_left; (focus ((try simp only [List.getElem_toArray, List.getElem_cons_zero, List.getElem_cons_succ]); intro w hSw; (try dsimp only at hSw); go_simp; all_goals (with_reducible rfl))); (try simp only [List.getElem_toArray, List.getElem_cons_zero, List.getElem_cons_succ, Act.put, List.setIfInBounds_toArray, List.set_cons_zero, List.set_cons_succ])); (refine wpAnyH_take (i := 14) (v := ?_) rfl (by kernel_rfl) (by kernel_rfl) (by kernel_rfl) (fun _ _ _ h => h) (Or.inl ⟨by kernel_rfl, ?_⟩) (by assumption) ?_; rotate_left; (focus ((try simp only [List.getElem_toArray, List.getElem_cons_zero, List.getElem_cons_succ]); intro w hSw; (try dsimp only at hSw); go_simp; all_goals (with_reducible rfl))); (try simp only [List.getElem_toArray, List.getElem_cons_zero, List.getElem_cons_succ, Act.put, List.setIfInBounds_toArray, List.set_cons_zero, List.set_cons_succ])); (refine wpAnyH_take (i := 15) (v := ?_) rfl (by kernel_rfl) (by kernel_rfl) (by kernel_rfl) (fun _ _ _ h => h) (Or.inl ⟨by kernel_rfl, ?_⟩) (by assumption) ?_; rotate_left; (focus ((try simp only [List.getElem_toArray, List.getElem_cons_zero, List.getElem_cons_succ]); intro w hSw; (try dsimp only at hSw); go_simp; all_goals (with_reducible rfl))); (try simp only [List.getElem_toArray, List.getElem_cons_zero, List.getElem_cons_succ, Act.put, List.setIfInBounds_toArray, List.set_cons_zero, List.set_cons_succ])); (refine wpAnyH_take (i := 16) (v := ?_) rfl (by kernel_rfl) (by kernel_rfl) (by kernel_rfl) (fun _ _ _ h => h) (Or.inl ⟨by kernel_rfl, ?_⟩) (by assumption) ?_; rotate_left; (focus ((try simp only [List.getElem_toArray, List.getElem_cons_zero, List.getElem_cons_succ]); intro w hSw; (try dsimp only at hSw); go_simp; all_goals (with_reducible rfl))); (try simp only [List.getElem_toArray, List.getElem_cons_zero, List.getElem_cons_succ, Act.put, List.setIfInBounds_toArray, List.set_cons_zero, List.set_cons_succ])); (refine wpAnyH_take (i := 17) (v := ?_) rfl (by kernel_rfl) (by kernel_rfl) (by kernel_rfl) (fun _ _ _ h => h) (Or.inl ⟨by kernel_rfl, ?_⟩) (by assumption) ?_; rotate_left; (focus ((try simp only [List.getElem_toArray, List.getElem_cons_zero, List.getElem_cons_succ]); intro w hSw; (try dsimp only at hSw); go_simp; all_goals (with_reducible rfl))); (try simp only [List.getElem_toArray, List.getElem_cons_zero, List.getElem_cons_succ, Act.put, List.setIfInBounds_toArray, List.set_cons_zero, List.set_cons_succ])))
            have bv := (Below.refl w3.heap.size w3).drew
            generalize w3.drew = W5 at hHeld bv ⊢
            (refine wpAnyH_ready (rs := [18]) (by kernel_rfl) (by simp) ?_; refine AllReadyH.cons rfl (fun K hK => ?_) AllReadyH.nil; (try simp only [List.getElem_toArray, List.getElem_cons_zero, List.getElem_cons_succ]))
            (go_simp; go_at_call 27; refine (SearchFirst_any R A2 n2 c2 ((m.drop a).take (e - a)) _ _ _ x1 _ (sq.out.on (below_step hb3 bv)) (rd_partI (ss.out.on (below_step hb3 bv)) (by omega) hen (fun _ => part_addr bx ox a c4 (by omega))) (by omega)).mono ?_; rintro ex w6 ⟨r1, hcut, rfl, hb6⟩; obtain rfl : r = r1 := (H2.out.cut hcut).symm; clear hcut H2; go_wp2_with fail)
            have b6 := below_step (below_step hb3 bv) hb6
            (refine hK.out _ _ (by first | (exact ⟨cell_on hb6 hHeld.1, cell_on hb6 hHeld.2.1, cell_on hb6 hHeld.2.2⟩) | (dsimp only; exact ⟨cell_on hb6 hHeld.1, cell_on hb6 hHeld.2.1, cell_on hb6 hHeld.2.2⟩)) (fun hHeld => ?_); clear hK K; (try simp only [List.getElem_toArray, List.getElem_cons_zero, List.getElem_cons_succ, Act.put, List.setIfInBounds_toArray, List.set_cons_zero, List.set_cons_succ]))
            ((refine wpAnyH_take (i := 19) (v := ?_) rfl (by kernel_rfl) (by kernel_rfl) (by kernel_rfl) (fun _ _ _ h => h) (Or.inl ⟨by kernel_rfl, ?_⟩) (by assumption) ?_; rotate_left; (focus ((try simp only [List.getElem_toArray, List.getElem_cons_zero, List.getElem_cons_succ]); intro w hSw; (try dsimp only at hSw); go_simp; all_goals (with_reducible rfl))); (try simp only [List.getElem_toArray, List.getElem_cons_zero, List.getElem_cons_succ, Act.put, List.setIfInBounds_toArray, List.set_cons_zero, List.set_cons_succ])); (refine wpAnyH_take (i := 20) (v := ?_) rfl (by kernel_rfl) (by kernel_rfl) (by kernel_rfl) (fun _ _ _ h => h) (Or.inl ⟨by kernel_rfl, ?_⟩) (by assumption) ?_; rotate_left; (focus ((try simp only [List.getElem_toArray, List.getElem_cons_zero, List.getElem_cons_succ]); intro w hSw; (try dsimp only at hSw); go_simp; all_goals (with_reducible rfl))); (try simp only [List.getElem_toArray, List.getElem_cons_zero, List.getElem_cons_succ, Act.put, List.setIfInBounds_toArray, List.set_cons_zero, List.set_cons_succ])))
            (refine wpAnyH_done (by kernel_rfl) ?_ _)
            obtain ⟨q0, q1, q2⟩ := hHeld
            clear j1 j2 j3 j4 k0 k1 k2 k3 hif hif2 g0 g1 g2 v0 v1
            go_wp2_with fail
            refine (SearchFirst_any R A2 n2 c2 m _ n0 c4 x1 _ (sq.out.on b6) (ss.out.on b6) (by omega)).mono ?_
            rintro ex w7 ⟨r2, hcut, rfl, hb7⟩
            obtain rfl : f = r2 := (hst.out.cut hcut).symm
            clear hcut hst
            go_wp2_with fail
            go_roundw
            case rel => exact ⟨1, by omega, by go_num, below_step hbel (below_step b6 hb7)⟩
            case measure => simp [intOf]
        · have hst : Hid (Step (pPast R m x1) n0 (less R m x1.1 + eqs R m x1.1)) := by
            have := past_step HS.out x1
            rw [HM.out] at this
            exact this
          obtain ⟨f, hf⟩ : ∃ f, f = less R m x1.1 + eqs R m x1.1 := ⟨_, rfl⟩
          rw [← hf] at hst
          clear hf
          rcases HTwo.out (fun y => decide (rk R x1.1 < rk R y.1)) f hst.out with ⟨hfn, h1⟩ | ⟨p, a, e, r, hfn, hp, hpa, hpa1, he, hae, har, hre, h1, h2⟩
          · have H1 : Hid (Step (pPast R E x1) j j) := h1
            rw [hfn] at hst
            clear h1 hfn HTwo f
            go_wp2_with fail
            refine (SearchPast_any R A2 n2 c2 E B j d x1 _ sq.out sE.out (by omega)).mono ?_
            rintro ex w3 ⟨r1, hcut, rfl, hb3⟩
            obtain rfl : j = r1 := (H1.out.cut hcut).symm
            clear hcut H1
            have g0 := cell_on hb3 f0
            have g1 := cell_on hb3 f1
            have g2 := cell_on hb3 f2
            have v0 := cell_on hb3 z0
            have v1 := cell_on hb3 z1
            go_wp2_with fail
            refine (SearchPast_any R A2 n2 c2 m A4 n0 c4 x1 _ (sq.out.on hb3) (ss.out.on hb3) (by omega)).mono ?_
            rintro ex w4 ⟨r2, hcut, rfl, hb4⟩
            obtain rfl : n0 = r2 := (hst.out.cut hcut).symm
            clear hcut hst
            go_wp2_with fail
            go_roundw
            case rel => exact ⟨2, by omega, by go_num, below_step hbel (below_step hb3 hb4)⟩
            case measure => simp [intOf]
          · have H1 : Hid (Step (pPast R E x1) j p) := h1
            have H2 : Hid (Step (pPast R ((m.drop a).take (e - a)) x1) (e - a) r) := h2
            clear h1 h2 HTwo
            go_wp2_with fail
            refine (SearchPast_any R A2 n2 c2 E B j d x1 _ sq.out sE.out (by omega)).mono ?_
            rintro ex w3 ⟨r1, hcut, rfl, hb3⟩
            obtain rfl : p = r1 := (H1.out.cut hcut).symm
            clear hcut H1
            have g0 := cell_on hb3 f0
            have g1 := cell_on hb3 f1
            have g2 := cell_on hb3 f2
            have v0 := cell_on hb3 z0
            have v1 := cell_on hb3 z1
            obtain ⟨z, hz⟩ : ∃ z, z = a + s := ⟨_, rfl⟩
            rw [← hz] at hpa1 he
            have hzb : z ≤ n0 + n0 + 1 := by omega
            have hm1 : (p : Int) * (s : Int) = (a : Int) := by rw [← hpa]; exact (Int.natCast_mul p s).symm
            have hm2 : ((p : Int) + 1) * (s : Int) = (z : Int) := by rw [← hpa1]; exact (Int.natCast_mul (p + 1) s).symm
            have hif : (if (n0 : Int) < (z : Int) then (n0 : Int) else (z : Int)) = (e : Int) := by split <;> omega
            have hif2 : (if n0 < z then (n0 : Int) else (z : Int)) = (e : Int) := by split <;> omega
            have hen : e ≤ n0 := by omega
            have hec := HC4.out
            clear hpa hpa1 he hz
            go_wp2_with fail
            obtain ⟨bx, ox, rfl, _⟩ := rdI_at (k := a) ss.out (by omega)
            have k0 : (0 : Int) ≤ (a : Int) := Int.natCast_nonneg _
            have k1 : (a : Int) ≤ (e : Int) := by omega
            have k2 : (e : Int) ≤ (c4 : Int) := by omega
            have k3 : (a : Int) < (c4 : Int) := by omega
            have j1 : IntKind.i64.wrap ((p : Int) * (s : Int)) = (a : Int) := by rw [hm1, IntWalk.i64_in _ (by omega)]
            have j2 : IntKind.i64.wrap ((p : Int) + 1) = (p : Int) + 1 := IntWalk.i64_in _ (by omega)
            have j3 : IntKind.i64.wrap (((p : Int) + 1) * (s : Int)) = (z : Int) := by rw [hm2, IntWalk.i64_in _ (by omega)]
            have j4 : IntKind.i64.wrap ((a : Int) + (r : Int)) = (f : Int) := by rw [IntWalk.i64_in _ (by omega)]; omega
            clear hm1 hm2
            refine wp_region_held_drew (S := fun w' => w'.cell? ⟨w.heap.size, 0, none⟩ = some (.int .i64 x1.1) ∧ w'.cell? ⟨w.heap.size, 1, none⟩ = some (.int .i64 x1.2) ∧ w'.cell? ⟨w.heap.size + 1, 0, none⟩ = some (.slice A2 n2 c2)) (by kernel_rfl) ⟨g0, g1, g2⟩ (fun hHeld => ?_)
            ((refine wpAnyH_take (i := 0) (v := ?_) rfl (by kernel_rfl) (by kernel_rfl) (by kernel_rfl) (fun _ _ _ h => h) (Or.inl ⟨by kernel_rfl, ?_⟩) (by assumption) ?_; rotate_left; (focus ((try simp only [List.getElem_toArray, List.getElem_cons_zero, List.getElem_cons_succ]); intro w hSw; (try dsimp only at hSw); go_simp; all_goals (with_reducible rfl))); (try simp only [List.getElem_toArray, List.getElem_cons_zero, List.getElem_cons_succ, Act.put, List.setIfInBounds_toArray, List.set_cons_zero, List.set_cons_succ])); (refine wpAnyH_take (i := 1) (v := ?_) rfl (by kernel_rfl) (by kernel_rfl) (by kernel_rfl) (fun _ _ _ h => h) (Or.inl ⟨by kernel_rfl, ?_⟩) (by assumption) ?_; rotate_left; (focus ((try simp only [List.getElem_toArray, List.getElem_cons_zero, List.getElem_cons_succ]); intro w hSw; (try dsimp only at hSw); go_simp; all_goals (with_reducible rfl))); (try simp only [List.getElem_toArray, List.getElem_cons_zero, List.getElem_cons_succ, Act.put, List.setIfInBounds_toArray, List.set_cons_zero, List.set_cons_succ])); (refine wpAnyH_take (i := 2) (v := ?_) rfl (by kernel_rfl) (by kernel_rfl) (by kernel_rfl) (fun _ _ _ h => h) (Or.inl ⟨by kernel_rfl, ?_⟩) (by assumption) ?_; rotate_left; (focus ((try simp only [List.getElem_toArray, List.getElem_cons_zero, List.getElem_cons_succ]); intro w hSw; (try dsimp only at hSw); go_simp; all_goals (with_reducible rfl))); (try simp only [List.getElem_toArray, List.getElem_cons_zero, List.getElem_cons_succ, Act.put, List.setIfInBounds_toArray, List.set_cons_zero, List.set_cons_succ])); (refine wpAnyH_take (i := 3) (v := ?_) rfl (by kernel_rfl) (by kernel_rfl) (by kernel_rfl) (fun _ _ _ h => h) (Or.inl ⟨by kernel_rfl, ?_⟩) (by assumption) ?_; rotate_left; (focus ((try simp only [List.getElem_toArray, List.getElem_cons_zero, List.getElem_cons_succ]); intro w hSw; (try dsimp only at hSw); go_simp; all_goals (with_reducible rfl))); (try simp only [List.getElem_toArray, List.getElem_cons_zero, List.getElem_cons_succ, Act.put, List.setIfInBounds_toArray, List.set_cons_zero, List.set_cons_succ])); (refine wpAnyH_take (i := 4) (v := ?_) rfl (by kernel_rfl) (by kernel_rfl) (by kernel_rfl) (fun _ _ _ h => h) (Or.inl ⟨by kernel_rfl, ?_⟩) (by assumption) ?_; rotate_left; (focus ((try simp only [List.getElem_toArray, List.getElem_cons_zero, List.getElem_cons_succ]); intro w hSw; (try dsimp only at hSw); go_simp; all_goals (with_reducible rfl))); (try simp only [List.getElem_toArray, List.getElem_cons_zero, List.getElem_cons_succ, Act.put, List.setIfInBounds_toArray, List.set_cons_zero, List.set_cons_succ])); (refine wpAnyH_take (i := 5) (v := ?_) rfl (by kernel_rfl) (by kernel_rfl) (by kernel_rfl) (fun _ _ _ h => h) (Or.inl ⟨by kernel_rfl, ?_⟩) (by assumption) ?_; rotate_left; (focus ((try simp only [List.getElem_toArray, List.getElem_cons_zero, List.getElem_cons_succ]); intro w hSw; (try dsimp only at hSw); go_simp; all_goals (with_reducible rfl))); (try simp only [List.getElem_toArray, List.getElem_cons_zero, List.getElem_cons_succ, Act.put, List.setIfInBounds_toArray, List.set_cons_zero, List.set_cons_succ])); (refine wpAnyH_take (i := 6) (v := ?_) rfl (by kernel_rfl) (by kernel_rfl) (by kernel_rfl) (fun _ _ _ h => h) (Or.inl ⟨by kernel_rfl, ?_⟩) (by assumption) ?_; rotate_left; (focus ((try simp only [List.getElem_toArray, List.getElem_cons_zero, List.getElem_cons_succ]); intro w hSw; (try dsimp only at hSw); go_simp; all_goals (with_reducible rfl))); (try simp only [List.getElem_toArray, List.getElem_cons_zero, List.getElem_cons_succ, Act.put, List.setIfInBounds_toArray, List.set_cons_zero, List.set_cons_succ])); (refine wpAnyH_take (i := 7) (v := ?_) rfl (by kernel_rfl) (by kernel_rfl) (by kernel_rfl) (fun _ _ _ h => h) (Or.inl ⟨by kernel_rfl, ?_⟩) (by assumption) ?_; rotate_left; (focus ((try simp only [List.getElem_toArray, List.getElem_cons_zero, List.getElem_cons_succ]); intro w hSw; (try dsimp only at hSw); go_simp; all_goals (with_reducible rfl))); (try simp only [List.getElem_toArray, List.getElem_cons_zero, List.getElem_cons_succ, Act.put, List.setIfInBounds_toArray, List.set_cons_zero, List.set_cons_succ])); (refine wpAnyH_take (i := 8) (v := ?_) rfl (by kernel_rfl) (by kernel_rfl) (by kernel_rfl) (fun _ _ _ h => h) (Or.inl ⟨by kernel_rfl, ?_⟩) (by assumption) ?_; rotate_left; (focus ((try simp only [List.getElem_toArray, List.getElem_cons_zero, List.getElem_cons_succ]); intro w hSw; (try dsimp only at hSw); go_simp; all_goals (with_reducible rfl))); (try simp only [List.getElem_toArray, List.getElem_cons_zero, List.getElem_cons_succ, Act.put, List.setIfInBounds_toArray, List.set_cons_zero, List.set_cons_succ])); (refine wpAnyH_take (i := 9) (v := ?_) rfl (by kernel_rfl) (by kernel_rfl) (by kernel_rfl) (fun _ _ _ h => h) (Or.inl ⟨by kernel_rfl, ?_⟩) (by assumption) ?_; rotate_left; (focus ((try simp only [List.getElem_toArray, List.getElem_cons_zero, List.getElem_cons_succ]); intro w hSw; (try dsimp only at hSw); go_simp; all_goals (with_reducible rfl))); (try simp only [List.getElem_toArray, List.getElem_cons_zero, List.getElem_cons_succ, Act.put, List.setIfInBounds_toArray, List.set_cons_zero, List.set_cons_succ])); (refine wpAnyH_take (i := 10) (v := ?_) rfl (by kernel_rfl) (by kernel_rfl) (by kernel_rfl) (fun _ _ _ h => h) (Or.inl ⟨by kernel_rfl, ?_⟩) (by assumption) ?_; rotate_left; (focus ((try simp only [List.getElem_toArray, List.getElem_cons_zero, List.getElem_cons_succ]); intro w hSw; (try dsimp only at hSw); go_simp; all_goals (with_reducible rfl))); (try simp only [List.getElem_toArray, List.getElem_cons_zero, List.getElem_cons_succ, Act.put, List.setIfInBounds_toArray, List.set_cons_zero, List.set_cons_succ])); (refine wpAnyH_take (i := 11) (v := ?_) rfl (by kernel_rfl) (by kernel_rfl) (by kernel_rfl) (fun _ _ _ h => h) (Or.inl ⟨by kernel_rfl, ?_⟩) (by assumption) ?_; rotate_left; (focus ((try simp only [List.getElem_toArray, List.getElem_cons_zero, List.getElem_cons_succ]); intro w hSw; (try dsimp only at hSw); go_simp; all_goals (with_reducible rfl))); (try simp only [List.getElem_toArray, List.getElem_cons_zero, List.getElem_cons_succ, Act.put, List.setIfInBounds_toArray, List.set_cons_zero, List.set_cons_succ])); (refine wpAnyH_take (i := 12) (v := ?_) rfl (by kernel_rfl) (by kernel_rfl) (by kernel_rfl) (fun _ _ _ h => h) (Or.inl ⟨by kernel_rfl, ?_⟩) (by assumption) ?_; rotate_left; (focus ((try simp only [List.getElem_toArray, List.getElem_cons_zero, List.getElem_cons_succ]); intro w hSw; (try dsimp only at hSw); go_simp; all_goals (with_reducible rfl))); (try simp only [List.getElem_toArray, List.getElem_cons_zero, List.getElem_cons_succ, Act.put, List.setIfInBounds_toArray, List.set_cons_zero, List.set_cons_succ])); (refine wpAnyH_take (i := 13) (v := ?_) rfl (by kernel_rfl) (by kernel_rfl) (by kernel_rfl) (fun _ _ _ h => h) (Or.inl ⟨by kernel_rfl, ?_⟩) (by assumption) ?_; rotate_left; (focus ((try simp only [List.getElem_toArray, List.getElem_cons_zero, List.getElem_cons_succ]); intro w hSw; (try dsimp only at hSw); go_simp; all_goals (with_reducible rfl))); (try simp only [List.getElem_toArray, List.getElem_cons_zero, List.getElem_cons_succ, Act.put, List.setIfInBounds_toArray, List.set_cons_zero, List.set_cons_succ])); (refine wpAnyH_take (i := 14) (v := ?_) rfl (by kernel_rfl) (by kernel_rfl) (by kernel_rfl) (fun _ _ _ h => h) (Or.inl ⟨by kernel_rfl, ?_⟩) (by assumption) ?_; rotate_left; (focus ((try simp only [List.getElem_toArray, List.getElem_cons_zero, List.getElem_cons_succ]); intro w hSw; (try dsimp only at hSw); go_simp; all_goals (with_reducible rfl))); (try simp only [List.getElem_toArray, List.getElem_cons_zero, List.getElem_cons_succ, Act.put, List.setIfInBounds_toArray, List.set_cons_zero, List.set_cons_succ])); (refine wpAnyH_take (i := 15) (v := ?_) rfl (by kernel_rfl) (by kernel_rfl) (by kernel_rfl) (fun _ _ _ h => h) (Or.inl ⟨by kernel_rfl, ?_⟩) (by assumption) ?_; rotate_left; (focus ((try simp only [List.getElem_toArray, List.getElem_cons_zero, List.getElem_cons_succ]); intro w hSw; (try dsimp only at hSw); go_simp; all_goals (with_reducible rfl))); (try simp only [List.getElem_toArray, List.getElem_cons_zero, List.getElem_cons_succ, Act.put, List.setIfInBounds_toArray, List.set_cons_zero, List.set_cons_succ])); (refine wpAnyH_take (i := 16) (v := ?_) rfl (by kernel_rfl) (by kernel_rfl) (by kernel_rfl) (fun _ _ _ h => h) (Or.inl ⟨by kernel_rfl, ?_⟩) (by assumption) ?_; rotate_left; (focus ((try simp only [List.getElem_toArray, List.getElem_cons_zero, List.getElem_cons_succ]); intro w hSw; (try dsimp only at hSw); go_simp; all_goals (with_reducible rfl))); (try simp only [List.getElem_toArray, List.getElem_cons_zero, List.getElem_cons_succ, Act.put, List.setIfInBounds_toArray, List.set_cons_zero, List.set_cons_succ])); (refine wpAnyH_take (i := 17) (v := ?_) rfl (by kernel_rfl) (by kernel_rfl) (by kernel_rfl) (fun _ _ _ h => h) (Or.inl ⟨by kernel_rfl, ?_⟩) (by assumption) ?_; rotate_left; (focus ((try simp only [List.getElem_toArray, List.getElem_cons_zero, List.getElem_cons_succ]); intro w hSw; (try dsimp only at hSw); go_simp; all_goals (with_reducible rfl))); (try simp only [List.getElem_toArray, List.getElem_cons_zero, List.getElem_cons_succ, Act.put, List.setIfInBounds_toArray, List.set_cons_zero, List.set_cons_succ])))
            have bv := (Below.refl w3.heap.size w3).drew
            generalize w3.drew = W5 at hHeld bv ⊢
            (refine wpAnyH_ready (rs := [18]) (by kernel_rfl) (by simp) ?_; refine AllReadyH.cons rfl (fun K hK => ?_) AllReadyH.nil; (try simp only [List.getElem_toArray, List.getElem_cons_zero, List.getElem_cons_succ]))
            (go_simp; go_at_call 29; refine (SearchPast_any R A2 n2 c2 ((m.drop a).take (e - a)) _ _ _ x1 _ (sq.out.on (below_step hb3 bv)) (rd_partI (ss.out.on (below_step hb3 bv)) (by omega) hen (fun _ => part_addr bx ox a c4 (by omega))) (by omega)).mono ?_; rintro ex w6 ⟨r1, hcut, rfl, hb6⟩; obtain rfl : r = r1 := (H2.out.cut hcut).symm; clear hcut H2; go_wp2_with fail)
            have b6 := below_step (below_step hb3 bv) hb6
            (refine hK.out _ _ (by first | (exact ⟨cell_on hb6 hHeld.1, cell_on hb6 hHeld.2.1, cell_on hb6 hHeld.2.2⟩) | (dsimp only; exact ⟨cell_on hb6 hHeld.1, cell_on hb6 hHeld.2.1, cell_on hb6 hHeld.2.2⟩)) (fun hHeld => ?_); clear hK K; (try simp only [List.getElem_toArray, List.getElem_cons_zero, List.getElem_cons_succ, Act.put, List.setIfInBounds_toArray, List.set_cons_zero, List.set_cons_succ]))
            ((refine wpAnyH_take (i := 19) (v := ?_) rfl (by kernel_rfl) (by kernel_rfl) (by kernel_rfl) (fun _ _ _ h => h) (Or.inl ⟨by kernel_rfl, ?_⟩) (by assumption) ?_; rotate_left; (focus ((try simp only [List.getElem_toArray, List.getElem_cons_zero, List.getElem_cons_succ]); intro w hSw; (try dsimp only at hSw); go_simp; all_goals (with_reducible rfl))); (try simp only [List.getElem_toArray, List.getElem_cons_zero, List.getElem_cons_succ, Act.put, List.setIfInBounds_toArray, List.set_cons_zero, List.set_cons_succ])); (refine wpAnyH_take (i := 20) (v := ?_) rfl (by kernel_rfl) (by kernel_rfl) (by kernel_rfl) (fun _ _ _ h => h) (Or.inl ⟨by kernel_rfl, ?_⟩) (by assumption) ?_; rotate_left; (focus ((try simp only [List.getElem_toArray, List.getElem_cons_zero, List.getElem_cons_succ]); intro w hSw; (try dsimp only at hSw); go_simp; all_goals (with_reducible rfl))); (try simp only [List.getElem_toArray, List.getElem_cons_zero, List.getElem_cons_succ, Act.put, List.setIfInBounds_toArray, List.set_cons_zero, List.set_cons_succ])))
            (refine wpAnyH_done (by kernel_rfl) ?_ _)
            obtain ⟨q0, q1, q2⟩ := hHeld
            clear j1 j2 j3 j4 k0 k1 k2 k3 hif hif2 g0 g1 g2 v0 v1
            go_wp2_with fail
            refine (SearchPast_any R A2 n2 c2 m _ n0 c4 x1 _ (sq.out.on b6) (ss.out.on b6) (by omega)).mono ?_
            rintro ex w7 ⟨r2, hcut, rfl, hb7⟩
            obtain rfl : f = r2 := (hst.out.cut hcut).symm
            clear hcut hst
            go_wp2_with fail
            go_roundw
            case rel => exact ⟨2, by omega, by go_num, below_step hbel (below_step b6 hb7)⟩
            case measure => simp [intOf]
        · go_wp2_with fail
          go_ret
          exact ⟨rfl, bz⟩
        -- END
end Go.Proofs.Ytdojnocmapkodaa

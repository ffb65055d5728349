/- FnKth returns true: for every list, size and k. -/
import Derived.Test.YtdojnocmapkodaaImplStable
import Derived.Test.YtdojnocmapkodaaIdentity
import Derived.Test.YtdojnocmapkodaaKthPlain
import Derived.Test.YtdojnocmapkodaaTabS
import Derived.Test.YtdojnocmapkodaaTwo
import Derived.Test.YtdojnocmapkodaaSteps
import Derived.Test.YtdojnocmapkodaaOpen
import Derived.Deep.RegionHeld3
namespace Go.Proofs.Ytdojnocmapkodaa
open Go.RowKit
attribute [local go_sem ↓] Go.wp_at_zero Go.wp_at_succ
theorem cB_snocK (l : List Bool) (b : Bool) : cB l ++ (#[Value.bool b] : Array Value).toList = cB (l ++ [b]) := by simp [cB]
/-- Those of the first i items whose keys lie below s. -/
def keyed (s : Nat) (l : List (Int × Int)) (i : Nat) : List (Int × Int) := (l.take i).filter fun z => decide (0 ≤ z.1 ∧ z.1 < (s : Int))
theorem keyed_snoc (s : Nat) (l : List (Int × Int)) (i : Nat) (h : i < l.length) : keyed s l (i + 1) = keyed s l i ++ if 0 ≤ (it l i).1 ∧ (it l i).1 < (s : Int) then [it l i] else [] := by
  unfold keyed
  rw [it_snoc l i h, List.filter_append]
  congr 1
  by_cases hc : 0 ≤ (it l i).1 ∧ (it l i).1 < (s : Int)
  · rw [if_pos hc]; simp [hc]
  · rw [if_neg hc]; simp; omega
theorem keyed_le (s : Nat) (l : List (Int × Int)) (i : Nat) : (keyed s l i).length ≤ i := Nat.le_trans (List.length_filter_le _ _) (by simp; omega)
/-- How many of the first j have keys up to v. -/
def upTo (F : List (Int × Int)) (v : Int) (j : Nat) : Nat := (F.take j).countP fun z => decide (z.1 ≤ v)
theorem upTo_le (F : List (Int × Int)) (v : Int) (j : Nat) : upTo F v j ≤ j := Nat.le_trans List.countP_le_length (by simp; omega)
theorem upTo_succ (F : List (Int × Int)) (v : Int) (j : Nat) (h : j < F.length) : upTo F v (j + 1) = upTo F v j + if (it F j).1 ≤ v then 1 else 0 := by
  unfold upTo
  rw [it_snoc F j h, List.countP_append, List.countP_singleton]
  simp only [decide_eq_true_eq]
def kMarks (F : List (Int × Int)) (k m : Nat) : List Bool := (List.range m).map fun (v : Nat) => decide (k < upTo F (v : Int) F.length)
theorem kMarks_succ (F : List (Int × Int)) (k m : Nat) : kMarks F k (m + 1) = kMarks F k m ++ [decide (k < upTo F (m : Int) F.length)] := by unfold kMarks; rw [List.range_succ, List.map_append]; rfl
theorem kth_law (s : Nat) (F : List (Int × Int)) (hF : ∀ z ∈ F, 0 ≤ z.1 ∧ z.1 < (s : Int)) (k : Nat) (hk : k < F.length) : ∃ key : Nat, (it (stab (rJ (digs s 1 s)) F) k).1 = (key : Int) ∧ Step (mk (kMarks F k s)) s key := by
  have hkl : k < (stab (rJ (digs s 1 s)) F).length := by rw [stab_len]; exact hk
  have hmem : (stab (rJ (digs s 1 s)) F)[k] ∈ F := (mem_stab _ _ _).1 (List.getElem_mem hkl)
  have hkb := hF _ hmem
  have hs : 0 < s := by omega
  have hr : ∀ z ∈ F, rJ (digs s 1 s) z = z.1 := fun z hz => by
    have := hF z hz
    unfold rJ
    rw [rk_digs_id s hs]
    unfold kn
    rw [if_pos this]
    omega
  rw [it_lt hkl]
  refine ⟨((stab (rJ (digs s 1 s)) F)[k]).1.toNat, by omega, by omega, fun v hv => ?_⟩
  rw [mk_lt (by simpa [kMarks] using hv)]
  simp only [kMarks, List.getElem_map, List.getElem_range]
  rw [decide_eq_decide]
  unfold upTo
  rw [List.take_length]
  have h1 := kth_iff (rJ (digs s 1 s)) _ (stab_srt _ F) k hkl (v : Int)
  have h2 : (stab (rJ (digs s 1 s)) F).countP (fun z => decide (rJ (digs s 1 s) z ≤ (v : Int))) = F.countP (fun z => decide (z.1 ≤ (v : Int))) := by
    rw [(stab_perm _ F).countP_eq]
    apply List.countP_congr
    intro z hz
    rw [hr z hz]
  rw [h2, hr _ hmem] at h1
  omega
theorem keyed_mem (s : Nat) (l : List (Int × Int)) (i : Nat) : ∀ z ∈ keyed s l i, 0 ≤ z.1 ∧ z.1 < (s : Int) := fun _ hz => of_decide_eq_true (List.mem_filter.1 hz).2

set_option linter.unusedSimpArgs false in
set_option maxHeartbeats 4000000 in
theorem wFnKth (A0 : Option Addr) (n0 c0 : Nat) (l0 : List (Int × Int)) (a1 a2 : Int) (w : World)
    (r0 : Rd w w.heap.size 2 A0 n0 (cI l0)) (_z0 : ∀ y ∈ l0, InI y.1 ∧ InI y.2) (le0 : n0 ≤ c0) (b0 : c0 * 16 ≤ 140737488351232) (_i1 : InI a1) (_i2 : InI a2) :
    Calls Try.prog 8 #[.slice A0 n0 c0, .int .i64 a1, .int .i64 a2] w fun e w' => e = .returned (.bool true) ∧ Below w.heap.size w w' := by
  clear _z0 _i1 _i2
  have hn : n0 * 16 ≤ 140737488351232 := by omega
  have HL := Lib.hid (rdI_len r0)
  have ra := Lib.hid r0
  clear r0
  by_cases h1 : a1 < 1
  · go_enter Try.func8, Try.ntmps8
    go_wp2
    go_ret
    exact ⟨rfl, Below.refl _ _⟩
  have h1' : decide (a1 < 1) = false := by simpa using h1
  by_cases h2 : 1000 < a1
  · go_enter Try.func8, Try.ntmps8
    go_wp2
    go_ret
    exact ⟨rfl, Below.refl _ _⟩
  have h2' : decide (1000 < a1) = false := by simpa using h2
  obtain ⟨s, rfl⟩ : ∃ s : Nat, a1 = s := ⟨a1.toNat, by omega⟩
  have hs : 1 ≤ s := by omega
  have hs2 : s ≤ 1000 := by omega
  go_enter Try.func8, Try.ntmps8
  go_wp2_with fail
  clear h1 h1' h2 h2'
  go_loopw [7, 24] (fun u t wr => ∃ (i : Nat) (A : Option Addr) (c : Nat), i ≤ n0 ∧ t = .int .i64 i ∧ u = .slice A (keyed s l0 i).length c ∧ wr.ownsRow w.heap.size 27 2 (.slice A (keyed s l0 i).length c) (keyed s l0 i).length (cI (keyed s l0 i)) ∧ Below w.heap.size w wr) (fun _ t _ => n0 - (intOf t).toNat)
  case atStart => exact ⟨0, none, 0, Nat.zero_le _, rfl, rfl, own_nil _ _ _ _, Below.refl _ _⟩
  case round =>
    obtain ⟨i, A, c, hi, rfl, rfl, hown, hbel⟩ := hrel
    have hle := keyed_le s l0 i
    by_cases hlt : i < n0
    · obtain ⟨b, off, rfl, _, hc1, hc2⟩ := rdI_at (k := i) (ra.out.on hbel) hlt
      have T := Lib.hid (keyed_snoc s l0 i (by rw [HL.out]; exact hlt))
      obtain ⟨G, hG⟩ : ∃ G, G = keyed s l0 i := ⟨_, rfl⟩
      rw [← hG] at T hle hown
      rw [← hG]
      clear hG
      obtain ⟨⟨xk, xt⟩, hx⟩ : ∃ x, x = it l0 i := ⟨_, rfl⟩
      rw [← hx] at hc1 hc2 T
      clear hx
      have hbx := hbel.alloc hbel.size (.cells #[.int .i64 xk, .int .i64 xt] 27)
      have o2 := hown.alloc (.cells #[.int .i64 xk, .int .i64 xt] 27)
      have y0 : (wr.alloc (.cells #[.int .i64 xk, .int .i64 xt] 27)).cell? ⟨wr.heap.size, 0, none⟩ = some (.int .i64 xk) := by simp [go_sem]
      have y1 : (wr.alloc (.cells #[.int .i64 xk, .int .i64 xt] 27)).cell? ⟨wr.heap.size, 1, none⟩ = some (.int .i64 xt) := by simp [go_sem]
      clear hown
      by_cases k1 : 0 ≤ xk
      · have k1' : decide (0 ≤ xk) = true := by simpa using k1
        by_cases k2 : xk < s
        · have k2' : decide (xk < (s : Int)) = true := by simpa using k2
          have HT : Hid (keyed s l0 (i + 1) = G ++ [(xk, xt)]) := by unfold Hid; rw [T.out, if_pos ⟨k1, k2⟩]
          clear T
          go_wp2_with (at_builtin; refine wpList_app eI rfl _ _ rfl w.heap.size (wr.alloc (.cells #[.int .i64 xk, .int .i64 xt] 27)) A G.length c _ rfl o2 #[.int .i64 xk, .int .i64 xt] (by rw [World.size_alloc]; rfl) rfl (one_two _ _ _ _) (by omega) (by unfold maxLen; omega) hbx.size ?_; rintro g cap w3 ⟨o3, bl3, _, _, _⟩)
          rw [cI_snoc (x := (xk, xt)), ← HT.out, show G.length + 1 = (keyed s l0 (i + 1)).length by rw [HT.out]; simp] at o3
          have HLn : Hid (G.length + 1 = (keyed s l0 (i + 1)).length) := by unfold Hid; rw [HT.out]; simp
          have b3 := hbx.trans bl3
          clear o2 hbx
          go_roundw
          case rel => exact ⟨i + 1, some ⟨g, 0, none⟩, cap, by omega, by go_num, by rw [HLn.out], o3, b3⟩
          case measure => simp [intOf]; omega
        · have k2' : decide (xk < (s : Int)) = false := by simpa using k2
          have HT : Hid (keyed s l0 (i + 1) = G) := by unfold Hid; rw [T.out, if_neg (by omega), List.append_nil]
          clear T
          rw [← HT.out] at o2
          go_wp2
          go_roundw
          case rel => exact ⟨i + 1, A, c, by omega, by go_num, by rw [HT.out], o2, hbx⟩
          case measure => simp [intOf]; omega
      · have k1' : decide (0 ≤ xk) = false := by simpa using k1
        have HT : Hid (keyed s l0 (i + 1) = G) := by unfold Hid; rw [T.out, if_neg (by omega), List.append_nil]
        clear T
        rw [← HT.out] at o2
        go_wp2
        go_roundw
        case rel => exact ⟨i + 1, A, c, by omega, by go_num, by rw [HT.out], o2, hbx⟩
        case measure => simp [intOf]; omega
    · obtain rfl : i = n0 := by omega
      have HF := Lib.hid (keyed_mem s l0 i)
      generalize keyed s l0 i = F at hown hle HF ⊢
      by_cases h3 : a2 < 0
      · go_wp2
        go_ret
        exact ⟨rfl, hbel⟩
      have h3' : decide (a2 < 0) = false := by simpa using h3
      by_cases h4 : (F.length : Int) ≤ a2
      · go_wp2
        go_ret
        exact ⟨rfl, hbel⟩
      have h4' : decide ((F.length : Int) ≤ a2) = false := by simpa using h4
      obtain ⟨k, rfl⟩ : ∃ k : Nat, a2 = k := ⟨a2.toNat, by omega⟩
      have hkF : k < F.length := by omega
      obtain ⟨key, hkey, hstep⟩ := kth_law s F HF.out k hkF
      have HK := Lib.hid hkey
      have HS := Lib.hid hstep
      have hks : key ≤ s := hstep.1
      have rF := Lib.hid (Rd.of_own hown)
      clear hkey hstep hown
      go_wp2_with fail
      clear h3 h3' h4 h4'
      obtain ⟨W, rfl⟩ : ∃ W : World, W = wr := ⟨_, rfl⟩
      go_loopw [10, 51] (fun u t wr => ∃ (v : Nat) (B : Option Addr) (cb : Nat), v ≤ s ∧ t = .int .i64 v ∧ u = .slice B v cb ∧ wr.ownsRow W.heap.size 4 1 (.slice B v cb) v (cB (kMarks F k v)) ∧ Below W.heap.size W wr) (fun _ t _ => s - (intOf t).toNat)
      case atStart => exact ⟨0, none, 0, Nat.zero_le _, rfl, rfl, own_nil _ _ _ _, Below.refl _ _⟩
      case round =>
        obtain ⟨v, B, cb, hv, rfl, rfl, hown, hbel2⟩ := hrel
        by_cases hlv : v < s
        · go_wp2_with fail
          obtain ⟨wo, rfl⟩ : ∃ wo : World, wo = wr := ⟨_, rfl⟩
          go_loopw [12, 56] (fun q t wr => ∃ j : Nat, j ≤ F.length ∧ t = .int .i64 j ∧ q = .int .i64 (upTo F (v : Int) j) ∧ Below wo.heap.size wo wr) (fun _ t _ => F.length - (intOf t).toNat)
          case atStart => exact ⟨0, Nat.zero_le _, rfl, rfl, Below.refl _ _⟩
          case round =>
            obtain ⟨j, hj, rfl, rfl, hbel3⟩ := hrel
            have hub := upTo_le F (v : Int) j
            by_cases hlj : j < F.length
            · obtain ⟨b, off, rfl, _, hc1, hc2⟩ := rdI_at (k := j) (rF.out.on (below_step hbel2 hbel3)) hlj
              have T := Lib.hid (upTo_succ F (v : Int) j hlj)
              obtain ⟨⟨xk, xt⟩, hx⟩ : ∃ x, x = it F j := ⟨_, rfl⟩
              rw [← hx] at hc1 hc2 T
              clear hx
              generalize upTo F (v : Int) j = q at T hub
              have hbx := hbel3.alloc hbel3.size (.cells #[.int .i64 xk, .int .i64 xt] 27)
              by_cases k1 : xk ≤ v
              · have HT : Hid (upTo F (v : Int) (j + 1) = q + 1) := by unfold Hid; rw [T.out, if_pos k1]
                clear T
                go_wp2
                go_roundw
                case rel => exact ⟨j + 1, by omega, by go_num, by rw [HT.out]; go_num, hbx⟩
                case measure => simp [intOf]; omega
              · have HT : Hid (upTo F (v : Int) (j + 1) = q) := by unfold Hid; rw [T.out, if_neg k1, Nat.add_zero]
                have k1' : decide (xk ≤ (v : Int)) = false := by simpa using k1
                clear T
                go_wp2
                go_roundw
                case rel => exact ⟨j + 1, by omega, by go_num, by rw [HT.out], hbx⟩
                case measure => simp [intOf]; omega
            · obtain rfl : j = F.length := by omega
              have T := Lib.hid (kMarks_succ F k v)
              have o2 := own_on hown hbel3
              have b2 := below_step hbel2 hbel3
              clear hown
              generalize upTo F (v : Int) F.length = q at T hub
              go_wp2_with (at_builtin; refine wpList_app eB rfl _ _ rfl W.heap.size wr B v cb _ rfl o2 #[.bool (decide (k < q))] rfl rfl (one_bool _) (by omega) (by unfold maxLen; omega) b2.size ?_; rintro g cap w3 ⟨o3, bl3, _, _, _⟩)
              rw [cB_snocK, ← T.out] at o3
              have b3 := b2.trans bl3
              clear o2
              go_roundw
              case rel => exact ⟨v + 1, some ⟨g, 0, none⟩, cap, by omega, by go_num, rfl, o3, b3⟩
              case measure => simp [intOf]; omega
        · obtain rfl : v = s := by omega
          have rM := Lib.hid (Rd.of_own hown)
          clear hown
          have hmx : max v 1 = v := by omega
          have HMX := Lib.hid hmx
          clear hmx
          have k0 : (0 : Int) ≤ (k : Int) := Int.natCast_nonneg _
          have k1 : (k : Int) < (F.length : Int) := by omega
          go_wp2_with (first
            | (go_at_call 15; refine (identity_any v _ (by omega)).mono ?_; rw [HMX.out]; rintro e w1 ⟨A5, c5, rfl, o5, hb5⟩; have r5 := Lib.hid (Rd.of_own o5); clear o5)
            | (go_at_call 13; refine (Stable_any (digs v 1 v) A5 v c5 F A F.length c _ r5.out (rF.out.on (below_step hbel2 hb5)) (by omega)).mono ?_; rintro e w2 ⟨A6, c6, rfl, o6, hb6⟩; have r6 := Lib.hid (Rd.of_own o6); clear o6)
            | fail)
          obtain ⟨bo, oo, rfl, _, g1, _⟩ := rdI_at (k := k) r6.out hkF
          rw [HK.out] at g1
          have hbf := below_step (below_step hbel2 hb5) hb6
          have rM6 := Lib.hid (rM.out.on (below_step hb5 hb6))
          have eqk : ((key : Int) == (key : Int)) = true := by simp
          go_region_held3 (fun w' => w'.cell? ⟨bo, oo + k * 2, none⟩ = some (.int .i64 (key : Int)) ∧ Below w2.heap.size w2 w')
            (first | (exact ⟨g1, (Below.refl _ _).drew⟩) | (go_split_ands; exact ⟨nx_cell hbc (by assumption), nx_step (by assumption) hbc⟩))
            (first
              | (go_at_call 25; go_split_ands; refine (Search_any _ B v cb v _ (rM6.out.on (by assumption)) (by omega)).mono ?_; rintro e w7 ⟨r7, hcut, rfl, hbc'⟩; have hr7 : key = r7 := (HS.out.cut hcut).symm; subst hr7; clear hcut; have hbc := nx hbc'; clear hbc'))
          all_goals
            go_wp2
            go_ret
            exact ⟨rfl, below_step hbel (below_step hbf (by go_split_ands; assumption))⟩
end Go.Proofs.Ytdojnocmapkodaa

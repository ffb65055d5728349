/- The contract of the counting closure of FnPairsCounted. -/
import Derived.Test.YtdjlcpfjemmlgaaTabs
import Derived.Test.YtdjlcpfjemmlgaaElems
import Derived.Test.YtdjlcpfjemmlgaaSteps
import Derived.Test.YtdjlcpfjemmlgaaLRank
import Derived.Test.YtdjlcpfjemmlgaaTwo
import Derived.Test.YtdjlcpfjemmlgaaPairsPlain
import Derived.Test.YtdjlcpfjemmlgaaCountsPlain
import Derived.Deep.RegionHeld3
import Derived.IntWalk
namespace Go.Proofs.Ytdjlcpfjemmlgaa
open Go.RowKit
attribute [local go_sem ↓] Go.wp_at_zero Go.wp_at_succ
theorem cB_snocP (l : List Bool) (b : Bool) : cB l ++ (#[Value.bool b] : Array Value).toList = cB (l ++ [b]) := by simp [cB]
theorem map_snocP {β : Type} (m : List (Int × Int)) (f : Int × Int → β) (k : Nat) (h : k < m.length) : (m.map f).take (k + 1) = (m.map f).take k ++ [f (it m k)] := by
  rw [take_snoc _ k (by simpa using h), List.getElem_map, it_lt h]
theorem row_ne {w : World} {base e size n t : Nat} {v : Value} {xs : List Value} (h : w.ownsRow base e size v n xs) (ht : t < base ∨ w.heap.size ≤ t) : some t ≠ v.ownBlock := fun e => by
  have := h.lt t e.symm
  omega

set_option linter.unusedSimpArgs false in
set_option maxHeartbeats 6000000 in
theorem count_any (R : List Int) (AR : Option Addr) (m c : Nat) (lim : Int) (a : List (Int × Int)) (Aa : Option Addr) (na ca : Nat) (b : List (Int × Int)) (Ab : Option Addr) (nb cb : Nat) (bo bl : Nat) (w : World)
    (ho : w.cell? ⟨bo, 0, none⟩ = some (.slice AR m c)) (hl : w.cell? ⟨bl, 0, none⟩ = some (.int .i64 lim)) (hr : Rd w w.heap.size 1 AR m (cZ R)) (ha : Rd w w.heap.size 2 Aa na (cI a)) (hb : Rd w w.heap.size 2 Ab nb (cI b))
    (hs : Srt (rI R) b) (hab : ∀ x ∈ a, -1000000000000 ≤ rk R x.1 ∧ rk R x.1 ≤ 1000000000000) (hbb : ∀ x ∈ b, -1000000000000 ≤ rk R x.1 ∧ rk R x.1 ≤ 1000000000000) (hna : na ≤ 1048576) (hnb : nb ≤ 1048576) :
    Calls Try.prog 18 #[.slice Aa na ca, .slice Ab nb cb, .pointer (some ⟨bo, 0, none⟩), .pointer (some ⟨bl, 0, none⟩)] w fun e w' => e = .returned (.int .i64 (cnt (rI R) lim a b : Nat)) ∧ Below w.heap.size w w' := by
  have HLa := Lib.hid (rdI_len ha)
  have HLb := Lib.hid (rdI_len hb)
  have HAB := Lib.hid hab
  have HBB := Lib.hid hbb
  have HS := Lib.hid hs
  clear hab hbb hs
  have HC : Hid (∀ i, cnt (rI R) lim (a.take i) b ≤ 1048576 * 1048576) := fun i => by
    have h1 := cnt_le (rI R) lim (a.take i) b
    have h2 : (a.take i).length ≤ 1048576 := by rw [List.length_take, HLa.out]; omega
    have h3 : b.length ≤ 1048576 := by rw [HLb.out]; exact hnb
    exact Nat.le_trans h1 (Nat.mul_le_mul h2 h3)
  go_enter Try.func18, Try.ntmps18
  go_wp2
  go_loopw [7, 15] (fun v s wr => ∃ i q : Nat, i ≤ na ∧ s = .int .i64 i ∧ v = .int .i64 q ∧ Hid (q = cnt (rI R) lim (a.take i) b) ∧ Below w.heap.size w wr) (fun _ s _ => na - (intOf s).toNat)
  case atStart => exact ⟨0, 0, Nat.zero_le _, rfl, rfl, rfl, Below.refl _ _⟩
  case round =>
    obtain ⟨i, q, hi, rfl, rfl, HQ, hbel⟩ := hrel
    have hqb : q ≤ 1048576 * 1048576 := by rw [HQ.out]; exact HC.out i
    by_cases hlt : i < na
    · obtain ⟨bx, ox, rfl, _, hc1, hc2⟩ := rdI_at (k := i) (ha.on hbel) hlt
      have hia : i < a.length := by rw [HLa.out]; exact hlt
      have T := Lib.hid (it_snoc a i hia)
      have hxb := HAB.out (it a i) (by rw [it_lt hia]; exact List.getElem_mem hia)
      obtain ⟨s, hst, hsr, hsb⟩ := reach_step (rI R) lim (it a i) b HS.out
      rw [HLb.out] at hst hsr hsb
      clear hia
      obtain ⟨⟨xk, xt⟩, hx⟩ : ∃ x, x = it a i := ⟨_, rfl⟩
      rw [← hx] at hc1 hc2 T hxb hst hsr
      clear hx
      dsimp only at hxb
      have HSt := Lib.hid hst
      have HSr := Lib.hid hsr
      clear hst hsr
      have hbx := hbel.alloc hbel.size (.cells #[.int .i64 xk, .int .i64 xt] 29)
      have t0 := cell_on hbx ho
      have t1 := cell_on hbx hl
      have x0 : (wr.alloc (.cells #[.int .i64 xk, .int .i64 xt] 29)).cell? ⟨wr.heap.size, 0, none⟩ = some (.int .i64 xk) := by simp [go_sem]
      have x1 : (wr.alloc (.cells #[.int .i64 xk, .int .i64 xt] 29)).cell? ⟨wr.heap.size, 1, none⟩ = some (.int .i64 xt) := by simp [go_sem]
      have rq := Lib.hid (hr.on hbx)
      have rb := Lib.hid (hb.on hbx)
      go_wp2_with fail
      generalize wr.alloc (.cells #[.int .i64 xk, .int .i64 xt] 29) = W2 at hbx t0 t1 x0 x1 rq rb ⊢
      obtain ⟨wx, hwx⟩ : ∃ wx, wx = wr.heap.size := ⟨_, rfl⟩
      rw [← hwx] at x0 x1
      rw [← hwx]
      clear hwx
      have hq0 := World.block_lt_of_cell? _ _ t0
      have hq1 := World.block_lt_of_cell? _ _ t1
      have hq2 := World.block_lt_of_cell? _ _ x0
      dsimp only at hq0 hq1 hq2
      go_loopw [10, 21] (fun v s wr => ∃ (j : Nat) (B : Option Addr) (d : Nat), j ≤ nb ∧ s = .int .i64 j ∧ v = .slice B j d ∧ wr.ownsRow W2.heap.size 4 1 (.slice B j d) j (cB ((b.map fun y => decide (lim ≤ rI R (xk, xt) + rI R y)).take j)) ∧ Below W2.heap.size W2 wr) (fun _ s _ => nb - (intOf s).toNat)
      case atStart => exact ⟨0, none, 0, Nat.zero_le _, rfl, rfl, own_nil _ _ _ _, Below.refl _ _⟩
      case round =>
        obtain ⟨j, B, d, hj, rfl, rfl, hown, hbel2⟩ := hrel
        by_cases hlj : j < nb
        · obtain ⟨b1, o1, rfl, _, hd1, hd2⟩ := rdI_at (k := j) (rb.out.on hbel2) hlj
          have hjb : j < b.length := by rw [HLb.out]; exact hlj
          have T2 := Lib.hid (map_snocP b (fun y => decide (lim ≤ rI R (xk, xt) + rI R y)) j hjb)
          have hyb := HBB.out (it b j) (by rw [it_lt hjb]; exact List.getElem_mem hjb)
          clear hjb
          obtain ⟨⟨yk, yt⟩, hy⟩ : ∃ y, y = it b j := ⟨_, rfl⟩
          rw [← hy] at hd1 hd2 T2 hyb
          clear hy
          dsimp only at hyb
          have hbz := hbel2.alloc hbel2.size (.cells #[.int .i64 yk, .int .i64 yt] 29)
          have u0 := cell_on hbz t0
          have u1 := cell_on hbz t1
          have v0 := cell_on hbz x0
          have v1 := cell_on hbz x1
          have z0 : (wr.alloc (.cells #[.int .i64 yk, .int .i64 yt] 29)).cell? ⟨wr.heap.size, 0, none⟩ = some (.int .i64 yk) := by simp [go_sem]
          have z1 : (wr.alloc (.cells #[.int .i64 yk, .int .i64 yt] 29)).cell? ⟨wr.heap.size, 1, none⟩ = some (.int .i64 yt) := by simp [go_sem]
          have rq4 := Lib.hid (rq.out.on hbz)
          have n0 := Lib.hid (row_ne hown (t := bo) (.inl hq0))
          have n1 := Lib.hid (row_ne hown (t := bl) (.inl hq1))
          have n2 := Lib.hid (row_ne hown (t := wx) (.inl hq2))
          have n3 := Lib.hid (row_ne hown (t := wr.heap.size) (.inr (Nat.le_refl _)))
          have HO := Lib.hid (hown.alloc (.cells #[.int .i64 yk, .int .i64 yt] 29))
          have hw : IntKind.i64.wrap (rk R xk + rk R yk) = rk R xk + rk R yk := IntWalk.i64_in _ (by omega)
          clear hown
          go_wp2_with fail
          generalize wr.alloc (.cells #[.int .i64 yk, .int .i64 yt] 29) = W4 at hbz u0 u1 v0 v1 z0 z1 rq4 HO ⊢
          have dr : Below W4.heap.size W4 W4.drew := (Below.refl _ _).drew
          refine wp_region_held_drew (S := fun w' => w'.cell? ⟨bo, 0, none⟩ = some (.slice AR m c) ∧ w'.cell? ⟨bl, 0, none⟩ = some (.int .i64 lim) ∧ w'.cell? ⟨wx, 0, none⟩ = some (.int .i64 xk) ∧ w'.cell? ⟨wx, 1, none⟩ = some (.int .i64 xt) ∧ w'.cell? ⟨wr.heap.size, 0, none⟩ = some (.int .i64 yk) ∧ w'.cell? ⟨wr.heap.size, 1, none⟩ = some (.int .i64 yt)) (by kernel_rfl) ⟨u0, u1, v0, v1, z0, z1⟩ (fun hHeld => ?_)
          ((refine wpAnyH_take (i := 0) (v := ?_) rfl (by kernel_rfl) (by kernel_rfl) (by kernel_rfl) (fun _ _ _ h => h) (Or.inl ⟨by kernel_rfl, ?_⟩) (by assumption) ?_; rotate_left; (focus ((try simp only [List.getElem_toArray, List.getElem_cons_zero, List.getElem_cons_succ]); intro w hSw; (try dsimp only at hSw); go_simp; all_goals (with_reducible rfl))); (try simp only [List.getElem_toArray, List.getElem_cons_zero, List.getElem_cons_succ, Act.put, List.setIfInBounds_toArray, List.set_cons_zero, List.set_cons_succ])); (refine wpAnyH_take (i := 1) (v := ?_) rfl (by kernel_rfl) (by kernel_rfl) (by kernel_rfl) (fun _ _ _ h => h) (Or.inl ⟨by kernel_rfl, ?_⟩) (by assumption) ?_; rotate_left; (focus ((try simp only [List.getElem_toArray, List.getElem_cons_zero, List.getElem_cons_succ]); intro w hSw; (try dsimp only at hSw); go_simp; all_goals (with_reducible rfl))); (try simp only [List.getElem_toArray, List.getElem_cons_zero, List.getElem_cons_succ, Act.put, List.setIfInBounds_toArray, List.set_cons_zero, List.set_cons_succ])); (refine wpAnyH_take (i := 2) (v := ?_) rfl (by kernel_rfl) (by kernel_rfl) (by kernel_rfl) (fun _ _ _ h => h) (Or.inl ⟨by kernel_rfl, ?_⟩) (by assumption) ?_; rotate_left; (focus ((try simp only [List.getElem_toArray, List.getElem_cons_zero, List.getElem_cons_succ]); intro w hSw; (try dsimp only at hSw); go_simp; all_goals (with_reducible rfl))); (try simp only [List.getElem_toArray, List.getElem_cons_zero, List.getElem_cons_succ, Act.put, List.setIfInBounds_toArray, List.set_cons_zero, List.set_cons_succ])); (refine wpAnyH_take (i := 4) (v := ?_) rfl (by kernel_rfl) (by kernel_rfl) (by kernel_rfl) (fun _ _ _ h => h) (Or.inl ⟨by kernel_rfl, ?_⟩) (by assumption) ?_; rotate_left; (focus ((try simp only [List.getElem_toArray, List.getElem_cons_zero, List.getElem_cons_succ]); intro w hSw; (try dsimp only at hSw); go_simp; all_goals (with_reducible rfl))); (try simp only [List.getElem_toArray, List.getElem_cons_zero, List.getElem_cons_succ, Act.put, List.setIfInBounds_toArray, List.set_cons_zero, List.set_cons_succ])); (refine wpAnyH_take (i := 5) (v := ?_) rfl (by kernel_rfl) (by kernel_rfl) (by kernel_rfl) (fun _ _ _ h => h) (Or.inl ⟨by kernel_rfl, ?_⟩) (by assumption) ?_; rotate_left; (focus ((try simp only [List.getElem_toArray, List.getElem_cons_zero, List.getElem_cons_succ]); intro w hSw; (try dsimp only at hSw); go_simp; all_goals (with_reducible rfl))); (try simp only [List.getElem_toArray, List.getElem_cons_zero, List.getElem_cons_succ, Act.put, List.setIfInBounds_toArray, List.set_cons_zero, List.set_cons_succ])); (refine wpAnyH_take (i := 8) (v := ?_) rfl (by kernel_rfl) (by kernel_rfl) (by kernel_rfl) (fun _ _ _ h => h) (Or.inl ⟨by kernel_rfl, ?_⟩) (by assumption) ?_; rotate_left; (focus ((try simp only [List.getElem_toArray, List.getElem_cons_zero, List.getElem_cons_succ]); intro w hSw; (try dsimp only at hSw); go_simp; all_goals (with_reducible rfl))); (try simp only [List.getElem_toArray, List.getElem_cons_zero, List.getElem_cons_succ, Act.put, List.setIfInBounds_toArray, List.set_cons_zero, List.set_cons_succ])))
          (refine wpAnyH_ready (rs := [3]) (by kernel_rfl) (by simp) ?_; refine AllReadyH.cons rfl (fun K hK => ?_) AllReadyH.nil; (try simp only [List.getElem_toArray, List.getElem_cons_zero, List.getElem_cons_succ]))
          (go_simp; go_at_call 17; refine (lrank_any R AR m c _ _ _ (rq4.out.on dr)).mono ?_; rintro e w5 ⟨rfl, hb5⟩; go_wp2_with fail)
          (refine hK.out _ _ (by first | (exact ⟨cell_on hb5 u0, cell_on hb5 u1, cell_on hb5 v0, cell_on hb5 v1, cell_on hb5 z0, cell_on hb5 z1⟩) | (dsimp only; exact ⟨cell_on hb5 u0, cell_on hb5 u1, cell_on hb5 v0, cell_on hb5 v1, cell_on hb5 z0, cell_on hb5 z1⟩)) (fun hHeld => ?_); clear hK K; (try simp only [List.getElem_toArray, List.getElem_cons_zero, List.getElem_cons_succ, Act.put, List.setIfInBounds_toArray, List.set_cons_zero, List.set_cons_succ]))
          have b5 := below_step dr hb5
          (refine wpAnyH_ready (rs := [6]) (by kernel_rfl) (by simp) ?_; refine AllReadyH.cons rfl (fun K hK => ?_) AllReadyH.nil; (try simp only [List.getElem_toArray, List.getElem_cons_zero, List.getElem_cons_succ]))
          (go_simp; go_at_call 17; refine (lrank_any R AR m c _ _ _ (rq4.out.on b5)).mono ?_; rintro e w6 ⟨rfl, hb6⟩; go_wp2_with fail)
          have b6 := below_step b5 hb6
          (refine hK.out _ _ (by first | (exact ⟨cell_on b6 u0, cell_on b6 u1, cell_on b6 v0, cell_on b6 v1, cell_on b6 z0, cell_on b6 z1⟩) | (dsimp only; exact ⟨cell_on b6 u0, cell_on b6 u1, cell_on b6 v0, cell_on b6 v1, cell_on b6 z0, cell_on b6 z1⟩)) (fun hHeld => ?_); clear hK K; (try simp only [List.getElem_toArray, List.getElem_cons_zero, List.getElem_cons_succ, Act.put, List.setIfInBounds_toArray, List.set_cons_zero, List.set_cons_succ]))
          ((refine wpAnyH_take (i := 7) (v := ?_) rfl (by kernel_rfl) (by kernel_rfl) (by kernel_rfl) (fun _ _ _ h => h) (Or.inl ⟨by kernel_rfl, ?_⟩) (by assumption) ?_; rotate_left; (focus ((try simp only [List.getElem_toArray, List.getElem_cons_zero, List.getElem_cons_succ]); intro w hSw; (try dsimp only at hSw); go_simp; all_goals (with_reducible rfl))); (try simp only [List.getElem_toArray, List.getElem_cons_zero, List.getElem_cons_succ, Act.put, List.setIfInBounds_toArray, List.set_cons_zero, List.set_cons_succ])); (refine wpAnyH_take (i := 9) (v := ?_) rfl (by kernel_rfl) (by kernel_rfl) (by kernel_rfl) (fun _ _ _ h => h) (Or.inl ⟨by kernel_rfl, ?_⟩) (by assumption) ?_; rotate_left; (focus ((try simp only [List.getElem_toArray, List.getElem_cons_zero, List.getElem_cons_succ]); intro w hSw; (try dsimp only at hSw); go_simp; all_goals (with_reducible rfl))); (try simp only [List.getElem_toArray, List.getElem_cons_zero, List.getElem_cons_succ, Act.put, List.setIfInBounds_toArray, List.set_cons_zero, List.set_cons_succ])))
          (refine wpAnyH_ready (rs := [10]) (by kernel_rfl) (by simp) ?_; refine AllReadyH.cons rfl (fun K hK => ?_) AllReadyH.nil; (try simp only [List.getElem_toArray, List.getElem_cons_zero, List.getElem_cons_succ]))
          go_simp
          have al := below_alloc1 w6 (.cells #[.bool (decide (lim ≤ rk R xk + rk R yk))] 4)
          (refine hK.out _ _ (by first | (exact ⟨cell_on al hHeld.1, cell_on al hHeld.2.1, cell_on al hHeld.2.2.1, cell_on al hHeld.2.2.2.1, cell_on al hHeld.2.2.2.2.1, cell_on al hHeld.2.2.2.2.2⟩) | (dsimp only; exact ⟨cell_on al hHeld.1, cell_on al hHeld.2.1, cell_on al hHeld.2.2.1, cell_on al hHeld.2.2.2.1, cell_on al hHeld.2.2.2.2.1, cell_on al hHeld.2.2.2.2.2⟩)) (fun hHeld => ?_); clear hK K; (try simp only [List.getElem_toArray, List.getElem_cons_zero, List.getElem_cons_succ, Act.put, List.setIfInBounds_toArray, List.set_cons_zero, List.set_cons_succ]))
          (refine wpAnyH_ready (rs := [11]) (by kernel_rfl) (by simp) ?_; refine AllReadyH.cons rfl (fun K hK => ?_) AllReadyH.nil; (try simp only [List.getElem_toArray, List.getElem_cons_zero, List.getElem_cons_succ]))
          rw [if_pos (by kernel_rfl)]
          have b26 := below_step hbz b6
          refine wp_app eB _ _ rfl W2.heap.size w6 B j d _ rfl (own_on HO.out b6) #[.bool (decide (lim ≤ rk R xk + rk R yk))] rfl rfl (one_bool _) (by omega) (by unfold maxLen; omega) b26.size ?_
          rintro g cap w7 ⟨o7, bl7, gr7, _, _⟩
          (refine hK.out _ _ (by first | (exact ⟨gr7.cell (cell_on b6 u0) n0.out, gr7.cell (cell_on b6 u1) n1.out, gr7.cell (cell_on b6 v0) n2.out, gr7.cell (cell_on b6 v1) n2.out, gr7.cell (cell_on b6 z0) n3.out, gr7.cell (cell_on b6 z1) n3.out⟩) | (dsimp only; exact ⟨gr7.cell (cell_on b6 u0) n0.out, gr7.cell (cell_on b6 u1) n1.out, gr7.cell (cell_on b6 v0) n2.out, gr7.cell (cell_on b6 v1) n2.out, gr7.cell (cell_on b6 z0) n3.out, gr7.cell (cell_on b6 z1) n3.out⟩)) (fun hHeld => ?_); clear hK K; (try simp only [List.getElem_toArray, List.getElem_cons_zero, List.getElem_cons_succ, Act.put, List.setIfInBounds_toArray, List.set_cons_zero, List.set_cons_succ]))
          ((refine wpAnyH_take (i := 12) (v := ?_) rfl (by kernel_rfl) (by kernel_rfl) (by kernel_rfl) (fun _ _ _ h => h) (Or.inl ⟨by kernel_rfl, ?_⟩) (by assumption) ?_; rotate_left; (focus ((try simp only [List.getElem_toArray, List.getElem_cons_zero, List.getElem_cons_succ]); intro w hSw; (try dsimp only at hSw); go_simp; all_goals (with_reducible rfl))); (try simp only [List.getElem_toArray, List.getElem_cons_zero, List.getElem_cons_succ, Act.put, List.setIfInBounds_toArray, List.set_cons_zero, List.set_cons_succ])))
          (refine wpAnyH_done (by kernel_rfl) ?_ _)
          rw [cB_snocP, show decide (lim ≤ rk R xk + rk R yk) = decide (lim ≤ rI R (xk, xt) + rI R (yk, yt)) from rfl, ← T2.out] at o7
          have b7 := b26.trans bl7
          clear hw hHeld gr7 bl7 HO
          go_wp2
          go_roundw
          case rel => exact ⟨j + 1, _, _, by omega, by go_num, rfl, o7, b7⟩
          case measure => simp [intOf]; omega
        · obtain rfl : j = nb := by omega
          rw [List.take_of_length_le (by rw [List.length_map, HLb.out]; exact Nat.le_refl _)] at hown
          have rM := Lib.hid (Rd.of_own hown)
          have b3 := below_step hbx hbel2
          have HQ2 : Hid (q + (j - s) = cnt (rI R) lim (a.take (i + 1)) b) := by unfold Hid; rw [T.out, cnt_snoc, ← HQ.out, ← HSr.out]
          clear hown
          go_wp2_with fail
          refine (Search_any _ B j d j wr rM.out (by omega)).mono ?_
          rintro e w3 ⟨r, hcut, rfl, hb3⟩
          have hr3 : s = r := (HSt.out.cut hcut).symm
          subst hr3
          clear hcut
          have b4 := below_step b3 hb3
          go_wp2
          go_roundw
          case rel => exact ⟨i + 1, q + (j - s), by omega, by go_num, by go_num, HQ2, b4⟩
          case measure => simp [intOf]; omega
    · obtain rfl : i = na := by omega
      rw [List.take_of_length_le (by rw [HLa.out]; exact Nat.le_refl _)] at HQ
      go_wp2
      go_ret
      exact ⟨by rw [← HQ.out]; rfl, hbel⟩
end Go.Proofs.Ytdjlcpfjemmlgaa

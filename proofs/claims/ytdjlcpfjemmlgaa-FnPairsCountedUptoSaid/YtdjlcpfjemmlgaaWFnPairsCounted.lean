/- FnPairsCounted returns true: for every two lists, every order and every limit. Conditions: the lists have room for at most 1048576 values each. -/
import Derived.Test.YtdjlcpfjemmlgaaPairs
import Derived.Test.YtdjlcpfjemmlgaaJoined
import Derived.Test.YtdjlcpfjemmlgaaSteps
import Derived.Test.YtdjlcpfjemmlgaaOpen
import Derived.Deep.RegionHeld3
import Derived.IntWalk
namespace Go.Proofs.Ytdjlcpfjemmlgaa
open Go.RowKit
attribute [local go_sem ↓] Go.wp_at_zero Go.wp_at_succ

set_option linter.unusedSimpArgs false in
set_option maxHeartbeats 6000000 in
theorem wFnPairsCounted (A0 : Option Addr) (n0 c0 : Nat) (l0 : List (Int × Int)) (A1 : Option Addr) (n1 c1 : Nat) (l1 : List (Int × Int)) (A2 : Option Addr) (n2 c2 : Nat) (R : List Int) (lim : Int) (w : World)
    (r0 : Rd w w.heap.size 2 A0 n0 (cI l0)) (_z0 : ∀ y ∈ l0, InI y.1 ∧ InI y.2) (le0 : n0 ≤ c0) (_b0 : c0 * 16 ≤ 140737488351232) (u0 : c0 ≤ 1048576)
    (r1 : Rd w w.heap.size 2 A1 n1 (cI l1)) (_z1 : ∀ y ∈ l1, InI y.1 ∧ InI y.2) (le1 : n1 ≤ c1) (_b1 : c1 * 16 ≤ 140737488351232) (u1 : c1 ≤ 1048576)
    (r2 : Rd w w.heap.size 1 A2 n2 (cZ R)) (_z2 : ∀ y ∈ R, InI y) (_le2 : n2 ≤ c2) (_b2 : c2 * 8 ≤ 140737488351232) (_i3 : InI lim) :
    Calls Try.prog 3 #[.slice A0 n0 c0, .slice A1 n1 c1, .agg #[.slice A2 n2 c2], .int .i64 lim] w fun e w' => e = .returned (.bool true) ∧ Below w.heap.size w w' := by
  clear _z0 _z1 _z2 _le2 _b2 _b0 _b1 _i3
  have hn0 : n0 ≤ 1048576 := by omega
  have hn1 : n1 ≤ 1048576 := by omega
  have HL0 := Lib.hid (rdI_len r0)
  have HL1 := Lib.hid (rdI_len r1)
  have hb0 := below_alloc2 w (.cells #[.slice A2 n2 c2] 25) (.cells #[.int .i64 lim] 3)
  have d2 : ((w.alloc (.cells #[.slice A2 n2 c2] 25)).alloc (.cells #[.int .i64 lim] 3)).cell? ⟨w.heap.size, 0, none⟩ = some (.slice A2 n2 c2) := by simp [go_sem]
  have d3 : ((w.alloc (.cells #[.slice A2 n2 c2] 25)).alloc (.cells #[.int .i64 lim] 3)).cell? ⟨w.heap.size + 1, 0, none⟩ = some (.int .i64 lim) := by simp [go_sem]
  have ra := Lib.hid (r0.on hb0)
  have rb := Lib.hid (r1.on hb0)
  have rr := Lib.hid (r2.on hb0)
  clear r0 r1 r2 le0 le1 u0 u1
  obtain ⟨n, hnn⟩ : ∃ n, n = n0 + n1 := ⟨_, rfl⟩
  have hnb : n ≤ 2097152 := by omega
  have HNN := Lib.hid hnn.symm
  clear hnn
  go_enter Try.func3, Try.ntmps3
  go_wp2_with fail
  generalize (w.alloc (.cells #[.slice A2 n2 c2] 25)).alloc (.cells #[.int .i64 lim] 3) = W0 at *
  go_region_held3 (fun w' => w'.cell? ⟨w.heap.size, 0, none⟩ = some (.slice A2 n2 c2) ∧ Below W0.heap.size W0 w')
    (first | (exact ⟨d2, (Below.refl _ _).drew⟩) | (go_split_ands; exact ⟨nx_cell hbc (by assumption), nx_step (by assumption) hbc⟩))
    (first
      | (go_at_call 15; go_split_ands; ((with_reducible refine (lstable_any l0 A0 n0 c0 R A2 n2 c2 _ (ra.out.on (by assumption)) (rr.out.on (by assumption)) (by omega)).mono ?_); rintro e w3 ⟨A5, c5, rfl, o5, hbc'⟩); have r5 := Lib.hid (Rd.of_own o5); clear o5; have hbc := nx hbc'; clear hbc')
      | (go_at_call 15; go_split_ands; ((with_reducible refine (lstable_any l1 A1 n1 c1 R A2 n2 c2 _ (rb.out.on (by assumption)) (rr.out.on (by assumption)) (by omega)).mono ?_); rintro e W ⟨A6, c6, rfl, o6, hbc'⟩); have r6 := Lib.hid (Rd.of_own o6); clear o6; have r5' := Lib.hid (r5.out.on hbc'); have hbc := nx hbc'; clear hbc'))
  have b3 : Below W0.heap.size W0 W := by go_split_ands; assumption
  have e2 : W.cell? ⟨w.heap.size, 0, none⟩ = some (.slice A2 n2 c2) := by go_split_ands; assumption
  have e3 := cell_on b3 d3
  have rr' := Lib.hid (rr.out.on b3)
  have hbW := below_step hb0 b3
  clear rr ra rb d2 d3 b3 hb0 r5
  rename_i hold2
  clear hold2
  have HM0 : Hid ((stab (rI R) l0).length = n0) := by unfold Hid; rw [stab_len, HL0.out]
  have HM1 : Hid ((stab (rI R) l1).length = n1) := by unfold Hid; rw [stab_len, HL1.out]
  have HS0 : Hid (Srt (rI R) (stab (rI R) l0)) := stab_srt (rI R) l0
  have HS1 : Hid (Srt (rI R) (stab (rI R) l1)) := stab_srt (rI R) l1
  have r5 : Hid (Rd W W.heap.size 2 A5 n0 (cI (stab (rI R) l0))) := r5'
  have r6q : Hid (Rd W W.heap.size 2 A6 n1 (cI (stab (rI R) l1))) := r6
  clear r5' r6
  obtain ⟨r6, hr6⟩ : ∃ h : Hid (Rd W W.heap.size 2 A6 n1 (cI (stab (rI R) l1))), True := ⟨r6q, trivial⟩
  clear hr6 r6q
  obtain ⟨ma, hma⟩ : ∃ m, m = stab (rI R) l0 := ⟨_, rfl⟩
  obtain ⟨mb, hmb⟩ : ∃ m, m = stab (rI R) l1 := ⟨_, rfl⟩
  rw [← hma] at HM0 HS0 r5
  rw [← hmb] at HM1 HS1 r6
  clear hma hmb HL0 HL1
  go_wp2_with fail
  refine (joined_items ma mb A5 A6 n0 n1 c5 c6 _ r5.out r6.out (by omega)).mono ?_
  rintro e w4 ⟨A7, c7, rfl, o7, hb4⟩
  have hlen := rdI_len (Rd.of_own o7)
  rw [HNN.out] at o7 hlen
  rw [HNN.out]
  have r7 := Lib.hid (Rd.of_own o7)
  clear o7
  have HLN := Lib.hid hlen
  clear hlen
  have b4 := below_step (Below.refl _ _) hb4
  have f2 := cell_on hb4 e2
  have f3 := cell_on hb4 e3
  have q5 := Lib.hid (r5.out.on hb4)
  have q6 := Lib.hid (r6.out.on hb4)
  have rq := Lib.hid (rr'.out.on hb4)
  have bw4 := below_step hbW hb4
  clear r5 r6 rr' e2 e3 hbW hb4 b4
  go_wp2_with fail
  go_loopw [28] (fun s wr => ∃ i : Nat, i ≤ n ∧ s = .int .i64 i ∧ Hid (∀ x ∈ (ma ++ mb).take i, -1000000000000 ≤ rk R x.1 ∧ rk R x.1 ≤ 1000000000000) ∧ Below w4.heap.size w4 wr) (fun s _ => n - (intOf s).toNat)
  case atStart => exact ⟨0, Nat.zero_le _, rfl, fun x hx => by simp at hx, Below.refl _ _⟩
  case round =>
    obtain ⟨i, hi, rfl, HB, hbel⟩ := hrel
    by_cases hlt : i < n
    · obtain ⟨bx, ox, rfl, _, hc1, hc2⟩ := rdI_at (k := i) (r7.out.on hbel) hlt
      have T := Lib.hid (it_snoc (ma ++ mb) i (by rw [HLN.out]; exact hlt))
      obtain ⟨⟨xk, xt⟩, hx⟩ : ∃ x, x = it (ma ++ mb) i := ⟨_, rfl⟩
      rw [← hx] at hc1 hc2 T
      clear hx
      have hbx := hbel.alloc hbel.size (.cells #[.int .i64 xk, .int .i64 xt] 29)
      have t2 := cell_on hbx f2
      have x0 : (wr.alloc (.cells #[.int .i64 xk, .int .i64 xt] 29)).cell? ⟨wr.heap.size, 0, none⟩ = some (.int .i64 xk) := by simp [go_sem]
      have x1 : (wr.alloc (.cells #[.int .i64 xk, .int .i64 xt] 29)).cell? ⟨wr.heap.size, 1, none⟩ = some (.int .i64 xt) := by simp [go_sem]
      have rq2 := Lib.hid (rq.out.on hbx)
      go_wp2_with fail
      generalize wr.alloc (.cells #[.int .i64 xk, .int .i64 xt] 29) = W2 at hbx t2 x0 x1 rq2 ⊢
      refine (lrank_any R A2 n2 c2 _ _ _ rq2.out).mono ?_
      rintro e w5 ⟨rfl, hb5⟩
      have b5 := below_step hbx hb5
      have HT : Hid (-1000000000000 ≤ rk R xk → rk R xk ≤ 1000000000000 → ∀ x ∈ (ma ++ mb).take (i + 1), -1000000000000 ≤ rk R x.1 ∧ rk R x.1 ≤ 1000000000000) := fun h1 h2 x hx => by
        rw [T.out] at hx
        rcases List.mem_append.1 hx with hx | hx
        · exact HB.out x hx
        · rw [List.mem_singleton] at hx
          subst hx
          exact ⟨h1, h2⟩
      clear T t2 x0 x1 hc1 hc2
      generalize rk R xk = k at HT ⊢
      by_cases hk1 : k < -1000000000000
      · go_wp2
        go_ret
        exact ⟨rfl, below_step bw4 b5⟩
      · by_cases hk2 : 1000000000000 < k
        · go_wp2
          go_ret
          exact ⟨rfl, below_step bw4 b5⟩
        · have HT2 := Lib.hid (HT.out (by omega) (by omega))
          clear HT
          go_wp2
          go_roundw
          case rel => exact ⟨i + 1, by omega, by go_num, HT2, b5⟩
          case measure => simp [intOf]; omega
    · obtain rfl : i = n := by omega
      rw [List.take_of_length_le (by rw [HLN.out]; exact Nat.le_refl _)] at HB
      have HB0 : Hid (∀ x ∈ ma, -1000000000000 ≤ rk R x.1 ∧ rk R x.1 ≤ 1000000000000) := fun x hx => HB.out x (List.mem_append_left _ hx)
      have HB1 : Hid (∀ x ∈ mb, -1000000000000 ≤ rk R x.1 ∧ rk R x.1 ≤ 1000000000000) := fun x hx => HB.out x (List.mem_append_right _ hx)
      have HC : Hid (∀ a b, a.length ≤ 1048576 → b.length ≤ 1048576 → cnt (rI R) lim a b ≤ 1048576 * 1048576) := fun a b ha hb => Nat.le_trans (cnt_le (rI R) lim a b) (Nat.mul_le_mul ha hb)
      have g2 := cell_on hbel f2
      have g3 := cell_on hbel f3
      have p5 := Lib.hid (q5.out.on hbel)
      have p6 := Lib.hid (q6.out.on hbel)
      have rp := Lib.hid (rq.out.on hbel)
      have bwV := below_step bw4 hbel
      clear HB q5 q6 rq f2 f3 r7 HLN bw4 hbel
      obtain ⟨V, rfl⟩ : ∃ V : World, V = wr := ⟨_, rfl⟩
      go_wp2_with fail
      go_loopw [13, 45] (fun v s wr => ∃ i q : Nat, i ≤ n0 ∧ s = .int .i64 i ∧ v = .int .i64 q ∧ Hid (q = cnt (rI R) lim (ma.take i) mb) ∧ Below V.heap.size V wr) (fun _ s _ => n0 - (intOf s).toNat)
      case atStart => exact ⟨0, 0, Nat.zero_le _, rfl, rfl, rfl, Below.refl _ _⟩
      case round =>
        obtain ⟨i, q, hi, rfl, rfl, HQ, hbel⟩ := hrel
        by_cases hlt : i < n0
        · obtain ⟨bx, ox, rfl, _, hc1, hc2⟩ := rdI_at (k := i) (p5.out.on hbel) hlt
          have hia : i < ma.length := by rw [HM0.out]; exact hlt
          have T := Lib.hid (it_snoc ma i hia)
          have hxb := HB0.out (it ma i) (by rw [it_lt hia]; exact List.getElem_mem hia)
          clear hia
          obtain ⟨⟨xk, xt⟩, hx⟩ : ∃ x, x = it ma i := ⟨_, rfl⟩
          rw [← hx] at hc1 hc2 T hxb
          clear hx
          dsimp only at hxb
          have hbx := hbel.alloc hbel.size (.cells #[.int .i64 xk, .int .i64 xt] 29)
          have t2 := cell_on hbx g2
          have t3 := cell_on hbx g3
          have x0 : (wr.alloc (.cells #[.int .i64 xk, .int .i64 xt] 29)).cell? ⟨wr.heap.size, 0, none⟩ = some (.int .i64 xk) := by simp [go_sem]
          have x1 : (wr.alloc (.cells #[.int .i64 xk, .int .i64 xt] 29)).cell? ⟨wr.heap.size, 1, none⟩ = some (.int .i64 xt) := by simp [go_sem]
          have rq2 := Lib.hid (rp.out.on hbx)
          have p6' := Lib.hid (p6.out.on hbx)
          go_wp2_with fail
          generalize wr.alloc (.cells #[.int .i64 xk, .int .i64 xt] 29) = W2 at hbx t2 t3 x0 x1 rq2 p6' ⊢
          obtain ⟨wx, hwx⟩ : ∃ wx, wx = wr.heap.size := ⟨_, rfl⟩
          rw [← hwx] at x0 x1
          rw [← hwx]
          clear hwx
          go_loopw [13, 51] (fun v s wr => ∃ j r : Nat, j ≤ n1 ∧ s = .int .i64 j ∧ v = .int .i64 r ∧ Hid (r = q + reach (rI R) lim (xk, xt) (mb.take j)) ∧ Below W2.heap.size W2 wr) (fun _ s _ => n1 - (intOf s).toNat)
          case atStart => exact ⟨0, q, Nat.zero_le _, rfl, rfl, rfl, Below.refl _ _⟩
          case round =>
            obtain ⟨j, r, hj, rfl, rfl, HR, hbel2⟩ := hrel
            by_cases hlj : j < n1
            · have hrb : r ≤ 1048576 * 1048576 + 1048576 := by
                have h1 := HC.out (ma.take i) mb (by rw [List.length_take, HM0.out]; omega) (by rw [HM1.out]; exact hn1)
                have h2 := reach_le (rI R) lim (xk, xt) (mb.take j)
                have h3 : (mb.take j).length ≤ 1048576 := by rw [List.length_take, HM1.out]; omega
                rw [HR.out, HQ.out]
                omega
              obtain ⟨b1, o1, rfl, _, hd1, hd2⟩ := rdI_at (k := j) (p6'.out.on hbel2) hlj
              have hjb : j < mb.length := by rw [HM1.out]; exact hlj
              have T2 := Lib.hid (it_snoc mb j hjb)
              have hyb := HB1.out (it mb j) (by rw [it_lt hjb]; exact List.getElem_mem hjb)
              clear hjb
              obtain ⟨⟨yk, yt⟩, hy⟩ : ∃ y, y = it mb j := ⟨_, rfl⟩
              rw [← hy] at hd1 hd2 T2 hyb
              clear hy
              dsimp only at hyb
              have hbz := hbel2.alloc hbel2.size (.cells #[.int .i64 yk, .int .i64 yt] 29)
              have u0 := cell_on hbz t2
              have u1 := cell_on hbz t3
              have v0 := cell_on hbz x0
              have v1 := cell_on hbz x1
              have z0 : (wr.alloc (.cells #[.int .i64 yk, .int .i64 yt] 29)).cell? ⟨wr.heap.size, 0, none⟩ = some (.int .i64 yk) := by simp [go_sem]
              have z1 : (wr.alloc (.cells #[.int .i64 yk, .int .i64 yt] 29)).cell? ⟨wr.heap.size, 1, none⟩ = some (.int .i64 yt) := by simp [go_sem]
              have rq4 := Lib.hid (rq2.out.on hbz)
              have hw : IntKind.i64.wrap (rk R xk + rk R yk) = rk R xk + rk R yk := IntWalk.i64_in _ (by omega)
              have HR2 : Hid (r + (if lim ≤ rk R xk + rk R yk then 1 else 0) = q + reach (rI R) lim (xk, xt) (mb.take (j + 1))) := by
                unfold Hid
                rw [T2.out, reach_snoc, ← Nat.add_assoc, ← HR.out]
                rfl
              clear T2
              go_wp2_with fail
              generalize wr.alloc (.cells #[.int .i64 yk, .int .i64 yt] 29) = W4 at hbz u0 u1 v0 v1 z0 z1 rq4 ⊢
              go_region_held3 (fun w' => w'.cell? ⟨w.heap.size, 0, none⟩ = some (.slice A2 n2 c2) ∧ w'.cell? ⟨w.heap.size + 1, 0, none⟩ = some (.int .i64 lim) ∧ w'.cell? ⟨wx, 0, none⟩ = some (.int .i64 xk) ∧ w'.cell? ⟨wx, 1, none⟩ = some (.int .i64 xt) ∧ w'.cell? ⟨wr.heap.size, 0, none⟩ = some (.int .i64 yk) ∧ w'.cell? ⟨wr.heap.size, 1, none⟩ = some (.int .i64 yt) ∧ Below W4.heap.size W4 w')
                (first | (exact ⟨u0, u1, v0, v1, z0, z1, (Below.refl _ _).drew⟩) | (go_split_ands; exact ⟨nx_cell hbc (by assumption), nx_cell hbc (by assumption), nx_cell hbc (by assumption), nx_cell hbc (by assumption), nx_cell hbc (by assumption), nx_cell hbc (by assumption), nx_step (by assumption) hbc⟩))
                (first
                  | (go_at_call 17; go_split_ands; ((with_reducible refine (lrank_any R A2 n2 c2 xk xt _ (rq4.out.on (by assumption))).mono ?_); rintro e w5 ⟨rfl, hbc'⟩); have hbc := nx hbc'; clear hbc')
                  | (go_at_call 17; go_split_ands; ((with_reducible refine (lrank_any R A2 n2 c2 yk yt _ (rq4.out.on (by assumption))).mono ?_); rintro e w6 ⟨rfl, hbc'⟩); have hbc := nx hbc'; clear hbc'))
              have b6 : Below W4.heap.size W4 w6 := by go_split_ands; assumption
              have b26 := below_step hbz b6
              rename_i hold3
              clear hold3 u0 u1 v0 v1 z0 z1 hw b6 hbz hd1 hd2
              by_cases hle : lim ≤ rk R xk + rk R yk
              · rw [if_pos hle] at HR2
                go_wp2
                go_roundw
                case rel => exact ⟨j + 1, r + 1, by omega, by go_num, by go_num, HR2, b26⟩
                case measure => simp [intOf]; omega
              · rw [if_neg hle] at HR2
                go_wp2
                go_roundw
                case rel => exact ⟨j + 1, r, by omega, by go_num, rfl, HR2, b26⟩
                case measure => simp [intOf]; omega
            · obtain rfl : j = n1 := by omega
              rw [List.take_of_length_le (by rw [HM1.out]; exact Nat.le_refl _)] at HR
              have HQ2 : Hid (r = cnt (rI R) lim (ma.take (i + 1)) mb) := by unfold Hid; rw [T.out, cnt_snoc, ← HQ.out, ← HR.out]
              have b3 := below_step hbx hbel2
              go_wp2
              go_roundw
              case rel => exact ⟨i + 1, r, by omega, by go_num, rfl, HQ2, b3⟩
              case measure => simp [intOf]; omega
        · obtain rfl : i = n0 := by omega
          rw [List.take_of_length_le (by rw [HM0.out]; exact Nat.le_refl _)] at HQ
          have HQ' : Hid (cnt (rI R) lim mb ma = q) := by unfold Hid; rw [HQ.out]; exact cnt_comm _ _ _ _
          have g2' := cell_on hbel g2
          have g3' := cell_on hbel g3
          have p5' := Lib.hid (p5.out.on hbel)
          have p6' := Lib.hid (p6.out.on hbel)
          have rp' := Lib.hid (rp.out.on hbel)
          have bwf := below_step bwV hbel
          clear g2 g3 p5 p6 rp bwV hbel
          go_wp2_with fail
          refine (count_any R A2 n2 c2 lim ma A5 i c5 mb A6 n1 c6 _ _ wr g2' g3' rp'.out p5'.out p6'.out HS1.out HB0.out HB1.out hn0 hn1).mono ?_
          rintro e w8 ⟨rfl, hb8⟩
          rw [← HQ.out]
          have g2e := cell_on hb8 g2'
          have g3e := cell_on hb8 g3'
          have p5e := Lib.hid (p5'.out.on hb8)
          have p6e := Lib.hid (p6'.out.on hb8)
          have rpe := Lib.hid (rp'.out.on hb8)
          have bw8 := below_step bwf hb8
          clear g2' g3' p5' p6' rp' bwf hb8
          go_wp2_with fail
          refine (count_any R A2 n2 c2 lim mb A6 n1 c6 ma A5 i c5 _ _ w8 g2e g3e rpe.out p6e.out p5e.out HS0.out HB1.out HB0.out hn1 hn0).mono ?_
          rintro e w9 ⟨rfl, hb9⟩
          rw [HQ'.out]
          have bw9 := below_step bw8 hb9
          go_wp2
          go_ret
          exact ⟨rfl, bw9⟩
end Go.Proofs.Ytdjlcpfjemmlgaa

/- FnAskedRises returns true: for every list and every order. -/
import Derived.Test.YtdojnocmapkodaaImplStable
import Derived.Test.YtdojnocmapkodaaRisesPlain
import Derived.Test.YtdojnocmapkodaaAsked
import Derived.Test.YtdojnocmapkodaaAppWide
import Derived.Test.YtdojnocmapkodaaJoined
import Derived.Test.YtdojnocmapkodaaTwo
import Derived.Test.YtdojnocmapkodaaOpen
import Derived.Deep.RegionHeld3
import Derived.Deep.QuietTactic
import Derived.BigQuiet
namespace Go.Proofs.Ytdojnocmapkodaa
open Go.RowKit
attribute [local go_sem ↓] Go.wp_at_zero Go.wp_at_succ
def asks (b : Bool) (l : List (Int × Int)) : List (Bool × (Int × Int)) := l.map fun x => (b, x)
theorem asks_snoc (b : Bool) (l : List (Int × Int)) (x : Int × Int) : cQ (asks b l) ++ [Value.bool b, .int .i64 x.1, .int .i64 x.2] = cQ (asks b (l ++ [x])) := by simp [cQ, asks]
theorem row_neR {w : World} {base e size n t : Nat} {v : Value} {xs : List Value} (h : w.ownsRow base e size v n xs) (ht : t < base ∨ w.heap.size ≤ t) : some t ≠ v.ownBlock := fun e => by
  have := h.lt t e.symm
  omega
theorem addr_blk (a : Addr) (n : Nat) : (a.add n).block = a.block := by unfold Addr.add; split <;> rfl
theorem ans_at {R : List Int} {m : List (Int × Int)} (b : Bool) (j : Nat) (h : j < m.length) : (answers R m (asks b m))[j]?.getD 0 = (ansN R m (b, it m j) : Int) := by simp [answers, asks, it, h]
theorem below_drewNR (w : World) (n : Nat) : Below w.heap.size w (w.drewN n) := by
  induction n with
  | zero => exact Below.refl _ _
  | succ n ih => exact Below.drew ih
theorem one_three (b : Bool) (k t : Int) : ∀ u ∈ [Value.bool b, .int .i64 k, .int .i64 t], u.oneCell' = true := by
  intro u hu
  simp at hu
  rcases hu with rfl | rfl | rfl <;> rfl

set_option linter.unusedSimpArgs false in
set_option maxRecDepth 100000 in
set_option maxHeartbeats 4000000 in
theorem wFnAskedRises (A0 : Option Addr) (n0 c0 : Nat) (l0 : List (Int × Int)) (A1 : Option Addr) (n1 c1 : Nat) (R : List Int) (w : World)
    (r0 : Rd w w.heap.size 2 A0 n0 (cI l0)) (_z0 : ∀ y ∈ l0, InI y.1 ∧ InI y.2) (le0 : n0 ≤ c0) (b0 : c0 * 16 ≤ 140737488351232)
    (r1 : Rd w w.heap.size 1 A1 n1 (cZ R)) (_z1 : ∀ y ∈ R, InI y) (_le1 : n1 ≤ c1) (_b1 : c1 * 8 ≤ 140737488351232) :
    Calls Try.prog 11 #[.slice A0 n0 c0, .agg #[.slice A1 n1 c1]] w fun e w' => e = .returned (.bool true) ∧ Below w.heap.size w w' := by
  clear _z0 _z1 _le1 _b1
  have hn : n0 * 16 ≤ 140737488351232 := by omega
  have HL := Lib.hid (rdI_len r0)
  have hb0 := below_alloc1 w (.cells #[.slice A1 n1 c1] 25)
  have d2 : (w.alloc (.cells #[.slice A1 n1 c1] 25)).cell? ⟨w.heap.size, 0, none⟩ = some (.slice A1 n1 c1) := by simp [go_sem]
  have ra := Lib.hid (r0.on hb0)
  have rr := Lib.hid (r1.on hb0)
  clear r0 r1 le0 b0
  go_enter Try.func11, Try.ntmps11
  go_wp2_with fail
  generalize w.alloc (.cells #[.slice A1 n1 c1] 25) = W0 at *
  refine (Stable_any R A1 n1 c1 l0 A0 n0 c0 _ rr.out ra.out (by omega)).mono ?_
  rintro e W ⟨A2, c2, rfl, o2, hb1⟩
  have rs := Lib.hid (Rd.of_own o2)
  have rq := Lib.hid (rr.out.on hb1)
  have e2 := cell_on hb1 d2
  have bw := below_step hb0 hb1
  clear o2 ra rr d2 hb0 hb1
  obtain ⟨m, hm⟩ : ∃ m, m = stab (rJ R) l0 := ⟨_, rfl⟩
  have HS : Hid (Srt (rI R) m) := by unfold Hid; rw [hm]; exact stab_srt (rJ R) l0
  have HM : Hid (m.length = n0) := by unfold Hid; rw [hm, stab_len]; exact HL.out
  rw [← hm] at rs
  clear hm HL
  go_wp2_with fail
  go_loopw [6, 7, 20] (fun v u s wr => ∃ (i : Nat) (B : Option Addr) (d : Nat) (C : Option Addr) (f : Nat), i ≤ n0 ∧ s = .int .i64 i ∧ v = .slice B i d ∧ u = .slice C i f ∧ wr.ownsRow W.heap.size 56 3 (.slice B i d) i (cQ (asks false (m.take i))) ∧
    wr.ownsRow W.heap.size 56 3 (.slice C i f) i (cQ (asks true (m.take i))) ∧ Hid (Apt (.slice C i f) (.slice B i d)) ∧ Below W.heap.size W wr) (fun _ _ s _ => n0 - (intOf s).toNat)
  case atStart => exact ⟨0, none, 0, none, 0, Nat.zero_le _, rfl, rfl, rfl, own_nil _ _ _ _, own_nil _ _ _ _, .inl rfl, Below.refl _ _⟩
  case round =>
    obtain ⟨i, B, d, C, f, hi, rfl, rfl, rfl, hB, hC, HA, hbel⟩ := hrel
    by_cases hlt : i < n0
    · obtain ⟨bx, ox, rfl, _, hc1, hc2⟩ := rdI_at (k := i) (rs.out.on hbel) hlt
      have T := Lib.hid (it_snoc m i (by rw [HM.out]; exact hlt))
      obtain ⟨x, hx⟩ : ∃ x, x = it m i := ⟨_, rfl⟩
      rw [← hx] at hc1 hc2 T
      clear hx
      have hbx := hbel.alloc hbel.size (.cells #[.int .i64 x.1, .int .i64 x.2] 27)
      have y0 : (wr.alloc (.cells #[.int .i64 x.1, .int .i64 x.2] 27)).cell? ⟨wr.heap.size, 0, none⟩ = some (.int .i64 x.1) := by simp [go_sem]
      have y1 : (wr.alloc (.cells #[.int .i64 x.1, .int .i64 x.2] 27)).cell? ⟨wr.heap.size, 1, none⟩ = some (.int .i64 x.2) := by simp [go_sem]
      have n2 := Lib.hid (row_neR hB (t := wr.heap.size) (.inr (Nat.le_refl _)))
      have n3 := Lib.hid (row_neR hC (t := wr.heap.size) (.inr (Nat.le_refl _)))
      have HB := Lib.hid (hB.alloc (.cells #[.int .i64 x.1, .int .i64 x.2] 27))
      have HC := Lib.hid (hC.alloc (.cells #[.int .i64 x.1, .int .i64 x.2] 27))
      clear hB hC
      go_wp2_with fail
      generalize wr.alloc (.cells #[.int .i64 x.1, .int .i64 x.2] 27) = W4 at hbx y0 y1 HB HC ⊢
      refine wp_region_held_drew (S := fun w' => w'.cell? ⟨wr.heap.size, 0, none⟩ = some (.int .i64 x.1) ∧ w'.cell? ⟨wr.heap.size, 1, none⟩ = some (.int .i64 x.2)) (by kernel_rfl) ⟨y0, y1⟩ (fun hHeld => ?_)
      ((refine wpAnyH_take (i := 0) (v := ?_) rfl (by kernel_rfl) (by kernel_rfl) (by kernel_rfl) (fun _ _ _ h => h) (Or.inl ⟨by kernel_rfl, ?_⟩) (by assumption) ?_; rotate_left; (focus ((try simp only [List.getElem_toArray, List.getElem_cons_zero, List.getElem_cons_succ]); intro w hSw; (try dsimp only at hSw); go_simp; all_goals (with_reducible rfl))); (try simp only [List.getElem_toArray, List.getElem_cons_zero, List.getElem_cons_succ, Act.put, List.setIfInBounds_toArray, List.set_cons_zero, List.set_cons_succ])); (refine wpAnyH_take (i := 1) (v := ?_) rfl (by kernel_rfl) (by kernel_rfl) (by kernel_rfl) (fun _ _ _ h => h) (Or.inl ⟨by kernel_rfl, ?_⟩) (by assumption) ?_; rotate_left; (focus ((try simp only [List.getElem_toArray, List.getElem_cons_zero, List.getElem_cons_succ]); intro w hSw; (try dsimp only at hSw); go_simp; all_goals (with_reducible rfl))); (try simp only [List.getElem_toArray, List.getElem_cons_zero, List.getElem_cons_succ, Act.put, List.setIfInBounds_toArray, List.set_cons_zero, List.set_cons_succ])); (refine wpAnyH_take (i := 2) (v := ?_) rfl (by kernel_rfl) (by kernel_rfl) (by kernel_rfl) (fun _ _ _ h => h) (Or.inl ⟨by kernel_rfl, ?_⟩) (by assumption) ?_; rotate_left; (focus ((try simp only [List.getElem_toArray, List.getElem_cons_zero, List.getElem_cons_succ]); intro w hSw; (try dsimp only at hSw); go_simp; all_goals (with_reducible rfl))); (try simp only [List.getElem_toArray, List.getElem_cons_zero, List.getElem_cons_succ, Act.put, List.setIfInBounds_toArray, List.set_cons_zero, List.set_cons_succ])); (refine wpAnyH_take (i := 5) (v := ?_) rfl (by kernel_rfl) (by kernel_rfl) (by kernel_rfl) (fun _ _ _ h => h) (Or.inl ⟨by kernel_rfl, ?_⟩) (by assumption) ?_; rotate_left; (focus ((try simp only [List.getElem_toArray, List.getElem_cons_zero, List.getElem_cons_succ]); intro w hSw; (try dsimp only at hSw); go_simp; all_goals (with_reducible rfl))); (try simp only [List.getElem_toArray, List.getElem_cons_zero, List.getElem_cons_succ, Act.put, List.setIfInBounds_toArray, List.set_cons_zero, List.set_cons_succ])); (refine wpAnyH_take (i := 6) (v := ?_) rfl (by kernel_rfl) (by kernel_rfl) (by kernel_rfl) (fun _ _ _ h => h) (Or.inl ⟨by kernel_rfl, ?_⟩) (by assumption) ?_; rotate_left; (focus ((try simp only [List.getElem_toArray, List.getElem_cons_zero, List.getElem_cons_succ]); intro w hSw; (try dsimp only at hSw); go_simp; all_goals (with_reducible rfl))); (try simp only [List.getElem_toArray, List.getElem_cons_zero, List.getElem_cons_succ, Act.put, List.setIfInBounds_toArray, List.set_cons_zero, List.set_cons_succ])); (refine wpAnyH_take (i := 7) (v := ?_) rfl (by kernel_rfl) (by kernel_rfl) (by kernel_rfl) (fun _ _ _ h => h) (Or.inl ⟨by kernel_rfl, ?_⟩) (by assumption) ?_; rotate_left; (focus ((try simp only [List.getElem_toArray, List.getElem_cons_zero, List.getElem_cons_succ]); intro w hSw; (try dsimp only at hSw); go_simp; all_goals (with_reducible rfl))); (try simp only [List.getElem_toArray, List.getElem_cons_zero, List.getElem_cons_succ, Act.put, List.setIfInBounds_toArray, List.set_cons_zero, List.set_cons_succ])))
      have oB := Lib.hid (own_on HB.out ((Below.refl _ _).drew))
      have oC := Lib.hid (own_on HC.out ((Below.refl _ _).drew))
      have bv := hbx.drew
      clear HB HC hbx y0 y1
      generalize W4.drew = W5 at hHeld oB oC bv ⊢
      (refine wpAnyH_ready (rs := [3, 8]) (by kernel_rfl) (by simp) ?_; refine AllReadyH.cons rfl (fun K hK => ?_) (AllReadyH.cons rfl (fun K hK => ?_) AllReadyH.nil); all_goals (try simp only [List.getElem_toArray, List.getElem_cons_zero, List.getElem_cons_succ]))
      -- ORDERS
      · go_simp
        have al := below_alloc1 W5 (.cells #[.bool false, .int .i64 x.1, .int .i64 x.2] 56)
        have lit1 : Hid (∀ j u, ([.bool false, .int .i64 x.1, .int .i64 x.2] : List Value)[j]? = some u → (W5.alloc (.cells #[.bool false, .int .i64 x.1, .int .i64 x.2] 56)).cell? ((⟨W5.heap.size, 0, none⟩ : Addr).add j) = some u) := World.news_of_block (heap_alloc_new W5 (.cells #[.bool false, .int .i64 x.1, .int .i64 x.2] 56))
        have nB1 := Lib.hid (row_neR oB.out (t := W5.heap.size) (.inr (Nat.le_refl _)))
        (refine hK.out _ _ (by first | (exact ⟨cell_on al hHeld.1, cell_on al hHeld.2⟩) | (dsimp only; exact ⟨cell_on al hHeld.1, cell_on al hHeld.2⟩)) (fun hHeld => ?_); clear hK K; (try simp only [List.getElem_toArray, List.getElem_cons_zero, List.getElem_cons_succ, Act.put, List.setIfInBounds_toArray, List.set_cons_zero, List.set_cons_succ]))
        replace oB := Lib.hid (own_on oB.out al)
        replace oC := Lib.hid (own_on oC.out al)
        replace bv := below_step bv al
        clear al
        generalize W5.alloc (.cells #[.bool false, .int .i64 x.1, .int .i64 x.2] 56) = W6 at hHeld oB oC bv lit1 ⊢
        (refine wpAnyH_ready (rs := [4, 8]) (by kernel_rfl) (by simp) ?_; refine AllReadyH.cons rfl (fun K hK => ?_) (AllReadyH.cons rfl (fun K hK => ?_) AllReadyH.nil); all_goals (try simp only [List.getElem_toArray, List.getElem_cons_zero, List.getElem_cons_succ]))
        · rw [if_pos (by kernel_rfl)]
          refine wp_one_wide eQ _ _ rfl W.heap.size W6 (.slice B i d) i _ rfl oB.out ⟨W5.heap.size, 0, none⟩ [.bool false, .int .i64 x.1, .int .i64 x.2] rfl rfl lit1.out (one_three _ _ _) (by omega) (by unfold maxLen; omega) bv.size ?_
          rintro v1 W7 h5
          have hc := All.other h5 oC.out HA.out
          replace bv := bv.trans (h5.below bv.size (own_block oB.out))
          replace oB := Lib.hid h5.1
          replace oC := Lib.hid hc.1
          replace HA := Lib.hid hc.2.symm
          (refine hK.out _ _ (by first | (exact ⟨h5.2.1.cell hHeld.1 n2.out, h5.2.1.cell hHeld.2 n2.out⟩) | (dsimp only; exact ⟨h5.2.1.cell hHeld.1 n2.out, h5.2.1.cell hHeld.2 n2.out⟩)) (fun hHeld => ?_); clear hK K; (try simp only [List.getElem_toArray, List.getElem_cons_zero, List.getElem_cons_succ, Act.put, List.setIfInBounds_toArray, List.set_cons_zero, List.set_cons_succ]))
          clear h5 hc
          (refine wpAnyH_ready (rs := [8]) (by kernel_rfl) (by simp) ?_; refine AllReadyH.cons rfl (fun K hK => ?_) AllReadyH.nil; (try simp only [List.getElem_toArray, List.getElem_cons_zero, List.getElem_cons_succ]))
          go_simp
          have al := below_alloc1 W7 (.cells #[.bool true, .int .i64 x.1, .int .i64 x.2] 56)
          have lit2 : Hid (∀ j u, ([.bool true, .int .i64 x.1, .int .i64 x.2] : List Value)[j]? = some u → (W7.alloc (.cells #[.bool true, .int .i64 x.1, .int .i64 x.2] 56)).cell? ((⟨W7.heap.size, 0, none⟩ : Addr).add j) = some u) := World.news_of_block (heap_alloc_new W7 (.cells #[.bool true, .int .i64 x.1, .int .i64 x.2] 56))
          have nB2 := Lib.hid (row_neR oB.out (t := W7.heap.size) (.inr (Nat.le_refl _)))
          (refine hK.out _ _ (by first | (exact ⟨cell_on al hHeld.1, cell_on al hHeld.2⟩) | (dsimp only; exact ⟨cell_on al hHeld.1, cell_on al hHeld.2⟩)) (fun hHeld => ?_); clear hK K; (try simp only [List.getElem_toArray, List.getElem_cons_zero, List.getElem_cons_succ, Act.put, List.setIfInBounds_toArray, List.set_cons_zero, List.set_cons_succ]))
          replace oB := Lib.hid (own_on oB.out al)
          replace oC := Lib.hid (own_on oC.out al)
          replace bv := below_step bv al
          clear al
          generalize W7.alloc (.cells #[.bool true, .int .i64 x.1, .int .i64 x.2] 56) = W8 at hHeld oB oC bv lit2 ⊢
          (refine wpAnyH_ready (rs := [9]) (by kernel_rfl) (by simp) ?_; refine AllReadyH.cons rfl (fun K hK => ?_) AllReadyH.nil; (try simp only [List.getElem_toArray, List.getElem_cons_zero, List.getElem_cons_succ]))
          rw [if_pos (by kernel_rfl)]
          refine wp_one_wide eQ _ _ rfl W.heap.size W8 (.slice C i f) i _ rfl oC.out ⟨W7.heap.size, 0, none⟩ [.bool true, .int .i64 x.1, .int .i64 x.2] rfl rfl lit2.out (one_three _ _ _) (by omega) (by unfold maxLen; omega) bv.size ?_
          rintro v2 W9 h5
          have hc := All.other h5 oB.out HA.out
          replace bv := bv.trans (h5.below bv.size (own_block oC.out))
          replace oC := Lib.hid h5.1
          replace oB := Lib.hid hc.1
          replace HA := Lib.hid hc.2.symm
          (refine hK.out _ _ (by first | (exact ⟨h5.2.1.cell hHeld.1 n3.out, h5.2.1.cell hHeld.2 n3.out⟩) | (dsimp only; exact ⟨h5.2.1.cell hHeld.1 n3.out, h5.2.1.cell hHeld.2 n3.out⟩)) (fun hHeld => ?_); clear hK K; (try simp only [List.getElem_toArray, List.getElem_cons_zero, List.getElem_cons_succ, Act.put, List.setIfInBounds_toArray, List.set_cons_zero, List.set_cons_succ]))
          clear h5 hc
          ((refine wpAnyH_take (i := 10) (v := ?_) rfl (by kernel_rfl) (by kernel_rfl) (by kernel_rfl) (fun _ _ _ h => h) (Or.inl ⟨by kernel_rfl, ?_⟩) (by assumption) ?_; rotate_left; (focus ((try simp only [List.getElem_toArray, List.getElem_cons_zero, List.getElem_cons_succ]); intro w hSw; (try dsimp only at hSw); go_simp; all_goals (with_reducible rfl))); (try simp only [List.getElem_toArray, List.getElem_cons_zero, List.getElem_cons_succ, Act.put, List.setIfInBounds_toArray, List.set_cons_zero, List.set_cons_succ])); (refine wpAnyH_take (i := 11) (v := ?_) rfl (by kernel_rfl) (by kernel_rfl) (by kernel_rfl) (fun _ _ _ h => h) (Or.inl ⟨by kernel_rfl, ?_⟩) (by assumption) ?_; rotate_left; (focus ((try simp only [List.getElem_toArray, List.getElem_cons_zero, List.getElem_cons_succ]); intro w hSw; (try dsimp only at hSw); go_simp; all_goals (with_reducible rfl))); (try simp only [List.getElem_toArray, List.getElem_cons_zero, List.getElem_cons_succ, Act.put, List.setIfInBounds_toArray, List.set_cons_zero, List.set_cons_succ])))
          (refine wpAnyH_done (by kernel_rfl) ?_ _)
          have o1f := oB.out
          have o2f := oC.out
          rw [asks_snoc, ← T.out] at o1f o2f
          obtain ⟨B', d', rfl⟩ := own_slice o1f
          obtain ⟨C', f', rfl⟩ := own_slice o2f
          clear hHeld oB oC
          go_wp2
          go_roundw
          case rel => exact ⟨i + 1, B', d', C', f', by omega, by go_num, rfl, rfl, o1f, o2f, HA, bv⟩
          case measure => simp [intOf]; omega
        · go_simp
          have al := below_alloc1 W6 (.cells #[.bool true, .int .i64 x.1, .int .i64 x.2] 56)
          have lit2 : Hid (∀ j u, ([.bool true, .int .i64 x.1, .int .i64 x.2] : List Value)[j]? = some u → (W6.alloc (.cells #[.bool true, .int .i64 x.1, .int .i64 x.2] 56)).cell? ((⟨W6.heap.size, 0, none⟩ : Addr).add j) = some u) := World.news_of_block (heap_alloc_new W6 (.cells #[.bool true, .int .i64 x.1, .int .i64 x.2] 56))
          have nB2 := Lib.hid (row_neR oB.out (t := W6.heap.size) (.inr (Nat.le_refl _)))
          (refine hK.out _ _ (by first | (exact ⟨cell_on al hHeld.1, cell_on al hHeld.2⟩) | (dsimp only; exact ⟨cell_on al hHeld.1, cell_on al hHeld.2⟩)) (fun hHeld => ?_); clear hK K; (try simp only [List.getElem_toArray, List.getElem_cons_zero, List.getElem_cons_succ, Act.put, List.setIfInBounds_toArray, List.set_cons_zero, List.set_cons_succ]))
          replace oB := Lib.hid (own_on oB.out al)
          replace oC := Lib.hid (own_on oC.out al)
          replace bv := below_step bv al
          replace lit1 : Hid (∀ j u, ([.bool false, .int .i64 x.1, .int .i64 x.2] : List Value)[j]? = some u → (W6.alloc (.cells #[.bool true, .int .i64 x.1, .int .i64 x.2] 56)).cell? ((⟨W5.heap.size, 0, none⟩ : Addr).add j) = some u) := fun j u hj => cell_on al (lit1.out j u hj)
          clear al
          generalize W6.alloc (.cells #[.bool true, .int .i64 x.1, .int .i64 x.2] 56) = W7 at hHeld oB oC bv lit1 lit2 ⊢
          (refine wpAnyH_ready (rs := [4]) (by kernel_rfl) (by simp) ?_; refine AllReadyH.cons rfl (fun K hK => ?_) AllReadyH.nil; (try simp only [List.getElem_toArray, List.getElem_cons_zero, List.getElem_cons_succ]))
          rw [if_pos (by kernel_rfl)]
          refine wp_one_wide eQ _ _ rfl W.heap.size W7 (.slice B i d) i _ rfl oB.out ⟨W5.heap.size, 0, none⟩ [.bool false, .int .i64 x.1, .int .i64 x.2] rfl rfl lit1.out (one_three _ _ _) (by omega) (by unfold maxLen; omega) bv.size ?_
          rintro v1 W8 h5
          have hc := All.other h5 oC.out HA.out
          replace bv := bv.trans (h5.below bv.size (own_block oB.out))
          replace oB := Lib.hid h5.1
          replace oC := Lib.hid hc.1
          replace HA := Lib.hid hc.2.symm
          replace lit2 : Hid (∀ j u, ([.bool true, .int .i64 x.1, .int .i64 x.2] : List Value)[j]? = some u → W8.cell? ((⟨W6.heap.size, 0, none⟩ : Addr).add j) = some u) := fun j u hj => h5.2.1.cell (lit2.out j u hj) (by rw [addr_blk]; exact nB2.out)
          (refine hK.out _ _ (by first | (exact ⟨h5.2.1.cell hHeld.1 n2.out, h5.2.1.cell hHeld.2 n2.out⟩) | (dsimp only; exact ⟨h5.2.1.cell hHeld.1 n2.out, h5.2.1.cell hHeld.2 n2.out⟩)) (fun hHeld => ?_); clear hK K; (try simp only [List.getElem_toArray, List.getElem_cons_zero, List.getElem_cons_succ, Act.put, List.setIfInBounds_toArray, List.set_cons_zero, List.set_cons_succ]))
          clear h5 hc
          (refine wpAnyH_ready (rs := [9]) (by kernel_rfl) (by simp) ?_; refine AllReadyH.cons rfl (fun K hK => ?_) AllReadyH.nil; (try simp only [List.getElem_toArray, List.getElem_cons_zero, List.getElem_cons_succ]))
          rw [if_pos (by kernel_rfl)]
          refine wp_one_wide eQ _ _ rfl W.heap.size W8 (.slice C i f) i _ rfl oC.out ⟨W6.heap.size, 0, none⟩ [.bool true, .int .i64 x.1, .int .i64 x.2] rfl rfl lit2.out (one_three _ _ _) (by omega) (by unfold maxLen; omega) bv.size ?_
          rintro v2 W9 h5
          have hc := All.other h5 oB.out HA.out
          replace bv := bv.trans (h5.below bv.size (own_block oC.out))
          replace oC := Lib.hid h5.1
          replace oB := Lib.hid hc.1
          replace HA := Lib.hid hc.2.symm
          (refine hK.out _ _ (by first | (exact ⟨h5.2.1.cell hHeld.1 n3.out, h5.2.1.cell hHeld.2 n3.out⟩) | (dsimp only; exact ⟨h5.2.1.cell hHeld.1 n3.out, h5.2.1.cell hHeld.2 n3.out⟩)) (fun hHeld => ?_); clear hK K; (try simp only [List.getElem_toArray, List.getElem_cons_zero, List.getElem_cons_succ, Act.put, List.setIfInBounds_toArray, List.set_cons_zero, List.set_cons_succ]))
          clear h5 hc
          ((refine wpAnyH_take (i := 10) (v := ?_) rfl (by kernel_rfl) (by kernel_rfl) (by kernel_rfl) (fun _ _ _ h => h) (Or.inl ⟨by kernel_rfl, ?_⟩) (by assumption) ?_; rotate_left; (focus ((try simp only [List.getElem_toArray, List.getElem_cons_zero, List.getElem_cons_succ]); intro w hSw; (try dsimp only at hSw); go_simp; all_goals (with_reducible rfl))); (try simp only [List.getElem_toArray, List.getElem_cons_zero, List.getElem_cons_succ, Act.put, List.setIfInBounds_toArray, List.set_cons_zero, List.set_cons_succ])); (refine wpAnyH_take (i := 11) (v := ?_) rfl (by kernel_rfl) (by kernel_rfl) (by kernel_rfl) (fun _ _ _ h => h) (Or.inl ⟨by kernel_rfl, ?_⟩) (by assumption) ?_; rotate_left; (focus ((try simp only [List.getElem_toArray, List.getElem_cons_zero, List.getElem_cons_succ]); intro w hSw; (try dsimp only at hSw); go_simp; all_goals (with_reducible rfl))); (try simp only [List.getElem_toArray, List.getElem_cons_zero, List.getElem_cons_succ, Act.put, List.setIfInBounds_toArray, List.set_cons_zero, List.set_cons_succ])))
          (refine wpAnyH_done (by kernel_rfl) ?_ _)
          have o1f := oB.out
          have o2f := oC.out
          rw [asks_snoc, ← T.out] at o1f o2f
          obtain ⟨B', d', rfl⟩ := own_slice o1f
          obtain ⟨C', f', rfl⟩ := own_slice o2f
          clear hHeld oB oC
          go_wp2
          go_roundw
          case rel => exact ⟨i + 1, B', d', C', f', by omega, by go_num, rfl, rfl, o1f, o2f, HA, bv⟩
          case measure => simp [intOf]; omega
      · go_simp
        have al := below_alloc1 W5 (.cells #[.bool true, .int .i64 x.1, .int .i64 x.2] 56)
        have lit2 : Hid (∀ j u, ([.bool true, .int .i64 x.1, .int .i64 x.2] : List Value)[j]? = some u → (W5.alloc (.cells #[.bool true, .int .i64 x.1, .int .i64 x.2] 56)).cell? ((⟨W5.heap.size, 0, none⟩ : Addr).add j) = some u) := World.news_of_block (heap_alloc_new W5 (.cells #[.bool true, .int .i64 x.1, .int .i64 x.2] 56))
        have nB2 := Lib.hid (row_neR oB.out (t := W5.heap.size) (.inr (Nat.le_refl _)))
        (refine hK.out _ _ (by first | (exact ⟨cell_on al hHeld.1, cell_on al hHeld.2⟩) | (dsimp only; exact ⟨cell_on al hHeld.1, cell_on al hHeld.2⟩)) (fun hHeld => ?_); clear hK K; (try simp only [List.getElem_toArray, List.getElem_cons_zero, List.getElem_cons_succ, Act.put, List.setIfInBounds_toArray, List.set_cons_zero, List.set_cons_succ]))
        replace oB := Lib.hid (own_on oB.out al)
        replace oC := Lib.hid (own_on oC.out al)
        replace bv := below_step bv al
        clear al
        generalize W5.alloc (.cells #[.bool true, .int .i64 x.1, .int .i64 x.2] 56) = W6 at hHeld oB oC bv lit2 ⊢
        (refine wpAnyH_ready (rs := [3]) (by kernel_rfl) (by simp) ?_; refine AllReadyH.cons rfl (fun K hK => ?_) AllReadyH.nil; (try simp only [List.getElem_toArray, List.getElem_cons_zero, List.getElem_cons_succ]))
        go_simp
        have al := below_alloc1 W6 (.cells #[.bool false, .int .i64 x.1, .int .i64 x.2] 56)
        have lit1 : Hid (∀ j u, ([.bool false, .int .i64 x.1, .int .i64 x.2] : List Value)[j]? = some u → (W6.alloc (.cells #[.bool false, .int .i64 x.1, .int .i64 x.2] 56)).cell? ((⟨W6.heap.size, 0, none⟩ : Addr).add j) = some u) := World.news_of_block (heap_alloc_new W6 (.cells #[.bool false, .int .i64 x.1, .int .i64 x.2] 56))
        have nB1 := Lib.hid (row_neR oB.out (t := W6.heap.size) (.inr (Nat.le_refl _)))
        (refine hK.out _ _ (by first | (exact ⟨cell_on al hHeld.1, cell_on al hHeld.2⟩) | (dsimp only; exact ⟨cell_on al hHeld.1, cell_on al hHeld.2⟩)) (fun hHeld => ?_); clear hK K; (try simp only [List.getElem_toArray, List.getElem_cons_zero, List.getElem_cons_succ, Act.put, List.setIfInBounds_toArray, List.set_cons_zero, List.set_cons_succ]))
        replace oB := Lib.hid (own_on oB.out al)
        replace oC := Lib.hid (own_on oC.out al)
        replace bv := below_step bv al
        replace lit2 : Hid (∀ j u, ([.bool true, .int .i64 x.1, .int .i64 x.2] : List Value)[j]? = some u → (W6.alloc (.cells #[.bool false, .int .i64 x.1, .int .i64 x.2] 56)).cell? ((⟨W5.heap.size, 0, none⟩ : Addr).add j) = some u) := fun j u hj => cell_on al (lit2.out j u hj)
        clear al
        generalize W6.alloc (.cells #[.bool false, .int .i64 x.1, .int .i64 x.2] 56) = W7 at hHeld oB oC bv lit1 lit2 ⊢
        (refine wpAnyH_ready (rs := [4]) (by kernel_rfl) (by simp) ?_; refine AllReadyH.cons rfl (fun K hK => ?_) AllReadyH.nil; (try simp only [List.getElem_toArray, List.getElem_cons_zero, List.getElem_cons_succ]))
        rw [if_pos (by kernel_rfl)]
        refine wp_one_wide eQ _ _ rfl W.heap.size W7 (.slice B i d) i _ rfl oB.out ⟨W6.heap.size, 0, none⟩ [.bool false, .int .i64 x.1, .int .i64 x.2] rfl rfl lit1.out (one_three _ _ _) (by omega) (by unfold maxLen; omega) bv.size ?_
        rintro v1 W8 h5
        have hc := All.other h5 oC.out HA.out
        replace bv := bv.trans (h5.below bv.size (own_block oB.out))
        replace oB := Lib.hid h5.1
        replace oC := Lib.hid hc.1
        replace HA := Lib.hid hc.2.symm
        replace lit2 : Hid (∀ j u, ([.bool true, .int .i64 x.1, .int .i64 x.2] : List Value)[j]? = some u → W8.cell? ((⟨W5.heap.size, 0, none⟩ : Addr).add j) = some u) := fun j u hj => h5.2.1.cell (lit2.out j u hj) (by rw [addr_blk]; exact nB2.out)
        (refine hK.out _ _ (by first | (exact ⟨h5.2.1.cell hHeld.1 n2.out, h5.2.1.cell hHeld.2 n2.out⟩) | (dsimp only; exact ⟨h5.2.1.cell hHeld.1 n2.out, h5.2.1.cell hHeld.2 n2.out⟩)) (fun hHeld => ?_); clear hK K; (try simp only [List.getElem_toArray, List.getElem_cons_zero, List.getElem_cons_succ, Act.put, List.setIfInBounds_toArray, List.set_cons_zero, List.set_cons_succ]))
        clear h5 hc
        (refine wpAnyH_ready (rs := [9]) (by kernel_rfl) (by simp) ?_; refine AllReadyH.cons rfl (fun K hK => ?_) AllReadyH.nil; (try simp only [List.getElem_toArray, List.getElem_cons_zero, List.getElem_cons_succ]))
        rw [if_pos (by kernel_rfl)]
        refine wp_one_wide eQ _ _ rfl W.heap.size W8 (.slice C i f) i _ rfl oC.out ⟨W5.heap.size, 0, none⟩ [.bool true, .int .i64 x.1, .int .i64 x.2] rfl rfl lit2.out (one_three _ _ _) (by omega) (by unfold maxLen; omega) bv.size ?_
        rintro v2 W9 h5
        have hc := All.other h5 oB.out HA.out
        replace bv := bv.trans (h5.below bv.size (own_block oC.out))
        replace oC := Lib.hid h5.1
        replace oB := Lib.hid hc.1
        replace HA := Lib.hid hc.2.symm
        (refine hK.out _ _ (by first | (exact ⟨h5.2.1.cell hHeld.1 n3.out, h5.2.1.cell hHeld.2 n3.out⟩) | (dsimp only; exact ⟨h5.2.1.cell hHeld.1 n3.out, h5.2.1.cell hHeld.2 n3.out⟩)) (fun hHeld => ?_); clear hK K; (try simp only [List.getElem_toArray, List.getElem_cons_zero, List.getElem_cons_succ, Act.put, List.setIfInBounds_toArray, List.set_cons_zero, List.set_cons_succ]))
        clear h5 hc
        ((refine wpAnyH_take (i := 10) (v := ?_) rfl (by kernel_rfl) (by kernel_rfl) (by kernel_rfl) (fun _ _ _ h => h) (Or.inl ⟨by kernel_rfl, ?_⟩) (by assumption) ?_; rotate_left; (focus ((try simp only [List.getElem_toArray, List.getElem_cons_zero, List.getElem_cons_succ]); intro w hSw; (try dsimp only at hSw); go_simp; all_goals (with_reducible rfl))); (try simp only [List.getElem_toArray, List.getElem_cons_zero, List.getElem_cons_succ, Act.put, List.setIfInBounds_toArray, List.set_cons_zero, List.set_cons_succ])); (refine wpAnyH_take (i := 11) (v := ?_) rfl (by kernel_rfl) (by kernel_rfl) (by kernel_rfl) (fun _ _ _ h => h) (Or.inl ⟨by kernel_rfl, ?_⟩) (by assumption) ?_; rotate_left; (focus ((try simp only [List.getElem_toArray, List.getElem_cons_zero, List.getElem_cons_succ]); intro w hSw; (try dsimp only at hSw); go_simp; all_goals (with_reducible rfl))); (try simp only [List.getElem_toArray, List.getElem_cons_zero, List.getElem_cons_succ, Act.put, List.setIfInBounds_toArray, List.set_cons_zero, List.set_cons_succ])))
        (refine wpAnyH_done (by kernel_rfl) ?_ _)
        have o1f := oB.out
        have o2f := oC.out
        rw [asks_snoc, ← T.out] at o1f o2f
        obtain ⟨B', d', rfl⟩ := own_slice o1f
        obtain ⟨C', f', rfl⟩ := own_slice o2f
        clear hHeld oB oC
        go_wp2
        go_roundw
        case rel => exact ⟨i + 1, B', d', C', f', by omega, by go_num, rfl, rfl, o1f, o2f, HA, bv⟩
        case measure => simp [intOf]; omega
      -- END
    · obtain rfl : i = n0 := by omega
      rw [List.take_of_length_le (by rw [HM.out]; exact Nat.le_refl _)] at hB hC
      have rB := Lib.hid (Rd.of_own hB)
      have rC := Lib.hid (Rd.of_own hC)
      have rs2 := Lib.hid (rs.out.on hbel)
      have rq2 := Lib.hid (rq.out.on hbel)
      have e3 := cell_on hbel e2
      have bw2 := below_step bw hbel
      clear hB hC HA rs rq e2 hbel
      go_wp2_with fail
      refine wp_region_held_drew (S := fun w' => w'.cell? ⟨w.heap.size, 0, none⟩ = some (.slice A1 n1 c1)) (by kernel_rfl) e3 (fun hHeld => ?_)
      ((refine wpAnyH_take (i := 0) (v := ?_) rfl (by kernel_rfl) (by kernel_rfl) (by kernel_rfl) (fun _ _ _ h => h) (Or.inl ⟨by kernel_rfl, ?_⟩) (by assumption) ?_; rotate_left; (focus ((try simp only [List.getElem_toArray, List.getElem_cons_zero, List.getElem_cons_succ]); intro w hSw; (try dsimp only at hSw); go_simp; all_goals (with_reducible rfl))); (try simp only [List.getElem_toArray, List.getElem_cons_zero, List.getElem_cons_succ, Act.put, List.setIfInBounds_toArray, List.set_cons_zero, List.set_cons_succ])); (refine wpAnyH_take (i := 1) (v := ?_) rfl (by kernel_rfl) (by kernel_rfl) (by kernel_rfl) (fun _ _ _ h => h) (Or.inl ⟨by kernel_rfl, ?_⟩) (by assumption) ?_; rotate_left; (focus ((try simp only [List.getElem_toArray, List.getElem_cons_zero, List.getElem_cons_succ]); intro w hSw; (try dsimp only at hSw); go_simp; all_goals (with_reducible rfl))); (try simp only [List.getElem_toArray, List.getElem_cons_zero, List.getElem_cons_succ, Act.put, List.setIfInBounds_toArray, List.set_cons_zero, List.set_cons_succ])); (refine wpAnyH_take (i := 2) (v := ?_) rfl (by kernel_rfl) (by kernel_rfl) (by kernel_rfl) (fun _ _ _ h => h) (Or.inl ⟨by kernel_rfl, ?_⟩) (by assumption) ?_; rotate_left; (focus ((try simp only [List.getElem_toArray, List.getElem_cons_zero, List.getElem_cons_succ]); intro w hSw; (try dsimp only at hSw); go_simp; all_goals (with_reducible rfl))); (try simp only [List.getElem_toArray, List.getElem_cons_zero, List.getElem_cons_succ, Act.put, List.setIfInBounds_toArray, List.set_cons_zero, List.set_cons_succ])); (refine wpAnyH_take (i := 4) (v := ?_) rfl (by kernel_rfl) (by kernel_rfl) (by kernel_rfl) (fun _ _ _ h => h) (Or.inl ⟨by kernel_rfl, ?_⟩) (by assumption) ?_; rotate_left; (focus ((try simp only [List.getElem_toArray, List.getElem_cons_zero, List.getElem_cons_succ]); intro w hSw; (try dsimp only at hSw); go_simp; all_goals (with_reducible rfl))); (try simp only [List.getElem_toArray, List.getElem_cons_zero, List.getElem_cons_succ, Act.put, List.setIfInBounds_toArray, List.set_cons_zero, List.set_cons_succ])); (refine wpAnyH_take (i := 5) (v := ?_) rfl (by kernel_rfl) (by kernel_rfl) (by kernel_rfl) (fun _ _ _ h => h) (Or.inl ⟨by kernel_rfl, ?_⟩) (by assumption) ?_; rotate_left; (focus ((try simp only [List.getElem_toArray, List.getElem_cons_zero, List.getElem_cons_succ]); intro w hSw; (try dsimp only at hSw); go_simp; all_goals (with_reducible rfl))); (try simp only [List.getElem_toArray, List.getElem_cons_zero, List.getElem_cons_succ, Act.put, List.setIfInBounds_toArray, List.set_cons_zero, List.set_cons_succ])); (refine wpAnyH_take (i := 6) (v := ?_) rfl (by kernel_rfl) (by kernel_rfl) (by kernel_rfl) (fun _ _ _ h => h) (Or.inl ⟨by kernel_rfl, ?_⟩) (by assumption) ?_; rotate_left; (focus ((try simp only [List.getElem_toArray, List.getElem_cons_zero, List.getElem_cons_succ]); intro w hSw; (try dsimp only at hSw); go_simp; all_goals (with_reducible rfl))); (try simp only [List.getElem_toArray, List.getElem_cons_zero, List.getElem_cons_succ, Act.put, List.setIfInBounds_toArray, List.set_cons_zero, List.set_cons_succ])))
      have bv := (Below.refl wr.heap.size wr).drew
      generalize wr.drew = W5 at hHeld bv ⊢
      (refine wpAnyH_ready (rs := [3]) (by kernel_rfl) (by simp) ?_; refine AllReadyH.cons rfl (fun K hK => ?_) AllReadyH.nil; (try simp only [List.getElem_toArray, List.getElem_cons_zero, List.getElem_cons_succ]))
      (go_simp; go_at_call 30; refine (Asked_any R A1 n1 c1 m A2 i c2 (asks false m) B i d _ (rq2.out.on bv) (rs2.out.on bv) (rB.out.on bv) HS.out (by omega) (by omega)).mono ?_; rintro e w3 ⟨A3, c3, rfl, o3, hb3⟩; go_wp2_with fail)
      (refine hK.out _ _ (by first | (exact cell_on hb3 hHeld) | (dsimp only; exact cell_on hb3 hHeld)) (fun hHeld => ?_); clear hK K; (try simp only [List.getElem_toArray, List.getElem_cons_zero, List.getElem_cons_succ, Act.put, List.setIfInBounds_toArray, List.set_cons_zero, List.set_cons_succ]))
      have b3 := below_step bv hb3
      (refine wpAnyH_ready (rs := [7]) (by kernel_rfl) (by simp) ?_; refine AllReadyH.cons rfl (fun K hK => ?_) AllReadyH.nil; (try simp only [List.getElem_toArray, List.getElem_cons_zero, List.getElem_cons_succ]))
      (go_simp; go_at_call 30; refine (Asked_any R A1 n1 c1 m A2 i c2 (asks true m) C i f _ (rq2.out.on b3) (rs2.out.on b3) (rC.out.on b3) HS.out (by omega) (by omega)).mono ?_; rintro e w4 ⟨A4, c4, rfl, o4, hb4⟩; go_wp2_with fail)
      (refine hK.out _ _ (by first | (exact cell_on hb4 hHeld) | (dsimp only; exact cell_on hb4 hHeld)) (fun hHeld => ?_); clear hK K; (try simp only [List.getElem_toArray, List.getElem_cons_zero, List.getElem_cons_succ, Act.put, List.setIfInBounds_toArray, List.set_cons_zero, List.set_cons_succ]))
      ((refine wpAnyH_take (i := 8) (v := ?_) rfl (by kernel_rfl) (by kernel_rfl) (by kernel_rfl) (fun _ _ _ h => h) (Or.inl ⟨by kernel_rfl, ?_⟩) (by assumption) ?_; rotate_left; (focus ((try simp only [List.getElem_toArray, List.getElem_cons_zero, List.getElem_cons_succ]); intro w hSw; (try dsimp only at hSw); go_simp; all_goals (with_reducible rfl))); (try simp only [List.getElem_toArray, List.getElem_cons_zero, List.getElem_cons_succ, Act.put, List.setIfInBounds_toArray, List.set_cons_zero, List.set_cons_succ])); (refine wpAnyH_take (i := 9) (v := ?_) rfl (by kernel_rfl) (by kernel_rfl) (by kernel_rfl) (fun _ _ _ h => h) (Or.inl ⟨by kernel_rfl, ?_⟩) (by assumption) ?_; rotate_left; (focus ((try simp only [List.getElem_toArray, List.getElem_cons_zero, List.getElem_cons_succ]); intro w hSw; (try dsimp only at hSw); go_simp; all_goals (with_reducible rfl))); (try simp only [List.getElem_toArray, List.getElem_cons_zero, List.getElem_cons_succ, Act.put, List.setIfInBounds_toArray, List.set_cons_zero, List.set_cons_succ])))
      (refine wpAnyH_done (by kernel_rfl) ?_ _)
      have ra := Lib.hid ((Rd.of_own o3).on hb4)
      have rb := Lib.hid (Rd.of_own o4)
      have bw4 := below_step bw2 (below_step b3 hb4)
      clear rB rC rs2 rq2 e3 hHeld o3 o4 bv b3 hb3 hb4 bw bw2 hi hlt
      go_wp2_with fail
      go_loopw [61] (fun s wz => ∃ j : Nat, j ≤ i ∧ s = .int .i64 j ∧ Below w4.heap.size w4 wz) (fun s _ => i - (intOf s).toNat)
      case atStart => exact ⟨0, Nat.zero_le _, rfl, Below.refl _ _⟩
      case round =>
        obtain ⟨j, hj, rfl, hbel⟩ := hrel
        by_cases hlt : j < i
        · obtain ⟨b1, o1, rfl, _, x1⟩ := rdZ_at (k := j) (ra.out.on hbel) hlt
          obtain ⟨b2, o2, rfl, _, x2⟩ := rdZ_at (k := j) (rb.out.on hbel) hlt
          rw [ans_at _ _ (by rw [HM.out]; exact hlt)] at x1 x2
          obtain ⟨p1, p2, p3⟩ := rises_at HS.out j (by rw [HM.out]; exact hlt)
          rw [HM.out] at p3
          cases j with
          | zero =>
            obtain ⟨a, ha⟩ : ∃ a, a = ansN R m (false, it m 0) := ⟨_, rfl⟩
            obtain ⟨b, hb⟩ : ∃ b, b = ansN R m (true, it m 0) := ⟨_, rfl⟩
            rw [← ha] at x1
            rw [← hb] at x2
            rw [show less R m (it m 0).1 = a from ha.symm] at p1
            rw [show less R m (it m 0).1 + eqs R m (it m 0).1 = b from hb.symm] at p2 p3
            clear ha hb
            obtain rfl : a = 0 := by omega
            have q1 : (1 : Int) ≤ (b : Int) := by omega
            have q2 : (b : Int) ≤ (i : Int) := by omega
            have q3 : (0 : Int) < (i : Int) := by omega
            clear p1 p2 p3
            go_wp2_with fail
            rw [Nat.add_zero] at x1 x2
            have d1 : decide ((b : Int) < 1) = false := by simp; omega
            have d2 : decide ((i : Int) < (b : Int)) = false := by simp; omega
            have d3 : decide (i < b) = false := by simp; omega
            simp only [List.append, List.append_eq, List.cons_append, List.nil_append]
            go_quiet (fail)
            go_wp2_with fail
            go_roundw
            case rel => exact ⟨1, by omega, by go_num, below_step hbel (below_drewNR wr _)⟩
            case measure => simp [intOf]; omega
          | succ k =>
            obtain ⟨b3, o3, he1, _, y1⟩ := rdZ_at (k := k) (ra.out.on hbel) (by omega)
            obtain ⟨b4, o4, he2, _, y2⟩ := rdZ_at (k := k) (rb.out.on hbel) (by omega)
            obtain ⟨rfl, rfl⟩ : b1 = b3 ∧ o1 = o3 := by injection he1 with he; injection he; exact ⟨by assumption, by assumption⟩
            obtain ⟨rfl, rfl⟩ : b2 = b4 ∧ o2 = o4 := by injection he2 with he; injection he; exact ⟨by assumption, by assumption⟩
            rw [ans_at _ _ (by rw [HM.out]; omega)] at y1 y2
            obtain ⟨p4, p5, p6⟩ := rises_next HS.out k (by rw [HM.out]; exact hlt)
            obtain ⟨a, ha⟩ : ∃ a, a = ansN R m (false, it m (k + 1)) := ⟨_, rfl⟩
            obtain ⟨b, hb⟩ : ∃ b, b = ansN R m (true, it m (k + 1)) := ⟨_, rfl⟩
            obtain ⟨a', ha'⟩ : ∃ a, a = ansN R m (false, it m k) := ⟨_, rfl⟩
            obtain ⟨b', hb'⟩ : ∃ b, b = ansN R m (true, it m k) := ⟨_, rfl⟩
            rw [← ha] at x1
            rw [← hb] at x2
            rw [← ha'] at y1
            rw [← hb'] at y2
            rw [show less R m (it m (k + 1)).1 + eqs R m (it m (k + 1)).1 = b from hb.symm] at p2 p3 p5
            rw [show less R m (it m k).1 + eqs R m (it m k).1 = b' from hb'.symm] at p5 p6
            rw [show less R m (it m (k + 1)).1 = a from ha.symm] at p1 p4 p6
            rw [show less R m (it m k).1 = a' from ha'.symm] at p4 p6
            clear ha hb ha' hb' he1 he2 ra rb
            have f1 : decide ((k : Int) + 1 < (a : Int)) = false := by simp; omega
            have g1 : decide (k + 1 < a) = false := by simp; omega
            have f2 : decide ((b : Int) < (k : Int) + 1 + 1) = false := by simp; omega
            have g2 : decide (b < k + 1 + 1) = false := by simp; omega
            have f3 : decide ((b : Int) < (k : Int) + 2) = false := by simp; omega
            have g3 : decide (b < k + 2) = false := by simp; omega
            have f4 : decide ((i : Int) < (b : Int)) = false := by simp; omega
            have g4 : decide (i < b) = false := by simp; omega
            have fz : decide ((a : Int) < 0) = false := by simp
            have k0 : (0 : Int) ≤ (k : Int) := by omega
            have k1 : (k : Int) + 1 < (i : Int) := by omega
            have k2 : (k : Int) < (i : Int) := by omega
            by_cases haa : a = a'
            · subst haa
              have f8 : decide ((b : Int) < (b' : Int)) = false := by simp; omega
              have g8 : decide (b < b') = false := by simp; omega
              clear p1 p2 p3 p4 p5 p6
              go_wp2_with fail
              simp only [List.append, List.append_eq, List.cons_append, List.nil_append]
              go_quiet (fail)
              go_wp2_with fail
              go_roundw
              case rel => exact ⟨k + 1 + 1, by omega, by go_num, below_step hbel (below_drewNR wr _)⟩
              case measure => simp [intOf]; omega
            · obtain rfl : a = b' := by omega
              have f7 : decide ((a : Int) < (a' : Int)) = false := by simp; omega
              have g7 : decide (a < a') = false := by simp; omega
              have f8 : decide ((b : Int) < (a : Int)) = false := by simp; omega
              have g8 : decide (b < a) = false := by simp; omega
              have f9 : decide ((a : Int) = (a' : Int)) = false := by simp; omega
              have g9 : decide (a = a') = false := by simp; omega
              have f10 : ((a : Int) == (a' : Int)) = false := by simp; omega
              have g10 : (a == a') = false := by simp; omega
              have f11 : ((a : Int) != (a' : Int)) = true := by simp; omega
              have g11 : (a != a') = true := by simp; omega
              clear haa
              clear p1 p2 p3 p4 p5 p6
              go_wp2_with fail
              simp only [List.append, List.append_eq, List.cons_append, List.nil_append]
              go_quiet (fail)
              go_wp2_with fail
              go_roundw
              case rel => exact ⟨k + 1 + 1, by omega, by go_num, below_step hbel (below_drewNR wr _)⟩
              case measure => simp [intOf]; omega
        · obtain rfl : j = i := by omega
          go_wp2_with fail
          go_ret
          exact ⟨rfl, below_step bw4 hbel⟩
end Go.Proofs.Ytdojnocmapkodaa

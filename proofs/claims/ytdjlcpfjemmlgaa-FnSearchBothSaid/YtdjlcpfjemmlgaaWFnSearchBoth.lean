/- FnSearchBoth returns true: for every two tables. -/
import Derived.Test.YtdjlcpfjemmlgaaTabs
import Derived.Test.YtdjlcpfjemmlgaaElems
import Derived.Test.YtdjlcpfjemmlgaaTwo
import Derived.Test.YtdjlcpfjemmlgaaSteps
import Derived.Test.YtdjlcpfjemmlgaaOpen
import Derived.Deep.RegionHeld3
import Derived.BigQuiet
namespace Go.Proofs.Ytdjlcpfjemmlgaa
open Go.RowKit
theorem cB_snoc2 (l : List Bool) (b : Bool) : cB l ++ (#[Value.bool b] : Array Value).toList = cB (l ++ [b]) := by simp [cB]
theorem rd_takeB {w : World} {B n k : Nat} {A : Option Addr} {l : List Bool} (h : Rd w B 1 A n (cB l)) (hk : k ≤ n) : Rd w B 1 A k (cB (l.take k)) := by
  have := h.take_ hk
  rw [Nat.mul_one] at this
  rw [cB, List.map_take]
  exact this
theorem below_drewN (w : World) (n : Nat) : Below w.heap.size w (w.drewN n) := by
  induction n with
  | zero => exact Below.refl _ _
  | succ n ih => exact Below.drew ih
/-- Two tables, entry by entry. -/
def zipB (f : Bool → Bool → Bool) (a b : List Bool) (n : Nat) : List Bool := (List.range n).map fun i => f (a[i]?.getD false) (b[i]?.getD false)
theorem zipB_succ (f : Bool → Bool → Bool) (a b : List Bool) (n : Nat) : zipB f a b (n + 1) = zipB f a b n ++ [f (a[n]?.getD false) (b[n]?.getD false)] := by
  unfold zipB; rw [List.range_succ, List.map_append]; rfl
theorem zipB_len (f : Bool → Bool → Bool) (a b : List Bool) (n : Nat) : (zipB f a b n).length = n := by simp [zipB]
theorem zipB_mk (f : Bool → Bool → Bool) (a b : List Bool) (n j : Nat) (ha : a.length = n) (hb : b.length = n) (hj : j < n) : mk (zipB f a b n) j = f (mk a j) (mk b j) := by
  rw [mk_lt (by rw [zipB_len]; exact hj), mk_lt (by omega), mk_lt (by omega)]
  simp [zipB, show j < a.length by omega, show j < b.length by omega]
theorem both_step {a b : List Bool} {n x y : Nat} (ha : a.length = n) (hb : b.length = n) (hx : Step (mk a) n x) (hy : Step (mk b) n y) : Step (mk (zipB and a b n)) n (max x y) := by
  refine ⟨by have := hx.1; have := hy.1; omega, fun j hj => ?_⟩
  rw [zipB_mk and a b n j ha hb hj, hx.2 j hj, hy.2 j hj, Bool.eq_iff_iff]
  simp
  omega
theorem one_step {a b : List Bool} {n x y : Nat} (ha : a.length = n) (hb : b.length = n) (hx : Step (mk a) n x) (hy : Step (mk b) n y) : Step (mk (zipB or a b n)) n (min x y) := by
  refine ⟨by have := hx.1; have := hy.1; omega, fun j hj => ?_⟩
  rw [zipB_mk or a b n j ha hb hj, hx.2 j hj, hy.2 j hj, Bool.eq_iff_iff]
  simp
  omega

set_option linter.unusedSimpArgs false in
set_option maxHeartbeats 6000000 in
theorem wFnSearchBoth (A0 : Option Addr) (n0 c0 : Nat) (l0 : List Bool) (A1 : Option Addr) (n1 c1 : Nat) (l1 : List Bool) (w : World)
    (r0 : Rd w w.heap.size 1 A0 n0 (cB l0)) (le0 : n0 ≤ c0) (b0 : c0 * 1 ≤ 140737488351232) (r1 : Rd w w.heap.size 1 A1 n1 (cB l1)) (le1 : n1 ≤ c1) (b1 : c1 * 1 ≤ 140737488351232) :
    Calls Try.prog 5 #[.slice A0 n0 c0, .slice A1 n1 c1] w fun e w' => e = .returned (.bool true) ∧ Below w.heap.size w w' := by
  rcases Nat.lt_or_ge n1 n0 with hle | hle
  · have q0 : (0 : Int) ≤ (n1 : Int) := Int.natCast_nonneg _
    have q1 : (n1 : Int) ≤ (c0 : Int) := by omega
    have q2 : (n1 : Int) ≤ (c1 : Int) := by omega
    have q3 : (n1 : Int) < (n0 : Int) := by omega
    have HLa : Hid ((l0.take n1).length = n1) := by unfold Hid; rw [List.length_take, rdB_len r0]; omega
    have HLb : Hid ((l1.take n1).length = n1) := by unfold Hid; rw [List.length_take, rdB_len r1]; omega
    have ra := Lib.hid (rd_takeB r0 (k := n1) (by omega))
    have rb := Lib.hid (rd_takeB r1 (k := n1) (by omega))
    clear r0 r1
    generalize l0.take n1 = la at ra HLa
    generalize l1.take n1 = lb at rb HLb
    go_enter Try.func5, Try.ntmps5
    go_wp2_with fail
    go_quiet (fail)
    have hbq : Below w.heap.size w (w.drewN nq) := below_drewN w nq
    have ra1 := Lib.hid (ra.out.on hbq)
    have rb1 := Lib.hid (rb.out.on hbq)
    clear ra rb
    generalize w.drewN nq = W at hbq ra1 rb1 ⊢
    go_wp2_with fail
    refine (Rising_any la A0 n1 _ n1 W ra1.out (by omega) (by omega)).mono ?_
    rintro e w' ⟨ba, hba, rfl, rfl⟩
    have HBA := Lib.hid hba
    clear hba
    cases ba
    · go_wp2
      go_ret
      exact ⟨rfl, hbq⟩
    go_wp2_with fail
    refine (Rising_any lb A1 n1 _ n1 W rb1.out (by omega) (by omega)).mono ?_
    rintro e w' ⟨bb, hbb, rfl, rfl⟩
    have HBB := Lib.hid hbb
    clear hbb
    cases bb
    · go_wp2
      go_ret
      exact ⟨rfl, hbq⟩
    go_wp2_with fail
    go_loopw [6, 7, 33] (fun va vb s wr => ∃ (i : Nat) (B D : Option Addr) (cb cd : Nat), i ≤ n1 ∧ s = .int .i64 i ∧ va = .slice B i cb ∧ vb = .slice D i cd ∧
      wr.ownsRow W.heap.size 4 1 (.slice B i cb) i (cB (zipB and la lb i)) ∧ wr.ownsRow W.heap.size 4 1 (.slice D i cd) i (cB (zipB or la lb i)) ∧ Hid (Apt (.slice D i cd) (.slice B i cb)) ∧ Below W.heap.size W wr) (fun _ _ s _ => n1 - (intOf s).toNat)
    case atStart => exact ⟨0, none, none, 0, 0, Nat.zero_le _, rfl, rfl, rfl, by simpa [cB, zipB] using own_nil _ _ _ _, by simpa [cB, zipB] using own_nil _ _ _ _, Apt.nil _, Below.refl _ _⟩
    case round =>
      obtain ⟨i, B, D, cb, cd, hi, rfl, rfl, rfl, oa, ob, hap, hbel⟩ := hrel
      by_cases hlt : i < n1
      · obtain ⟨b, off, rfl, hb1, x1⟩ := rdB_at (k := i) (ra1.out.below hbel) hlt
        obtain ⟨b2, off2, rfl, hb2, x2⟩ := rdB_at (k := i) (rb1.out.below hbel) hlt
        have T1 := Lib.hid (zipB_succ and la lb i)
        have T2 := Lib.hid (zipB_succ or la lb i)
        generalize la[i]?.getD false = x at x1 T1 T2
        generalize lb[i]?.getD false = y at x2 T1 T2
        have i0 : (0 : Int) ≤ (i : Int) := Int.natCast_nonneg _
        have i1 : (i : Int) < (n1 : Int) := by omega
        go_wp2_with fail
        cases x
        · skip
          refine wp_region_held_drew (S := (fun w' => w'.cell? ⟨b, off + i, none⟩ = some (.bool false) ∧ w'.cell? ⟨b2, off2 + i, none⟩ = some (.bool y) ∧ Below W.heap.size W w')) (by kernel_rfl) ⟨x1, x2, hbel.drew⟩ (fun hHeld => ?_)
          ((refine wpAnyH_take (i := 0) (v := ?_) rfl (by kernel_rfl) (by kernel_rfl) (by kernel_rfl) (fun _ _ _ h => h) (Or.inl ⟨by kernel_rfl, ?_⟩) (by assumption) ?_; rotate_left; (focus ((try simp only [List.getElem_toArray, List.getElem_cons_zero, List.getElem_cons_succ]); intro w hSw; (try dsimp only at hSw); go_simp; all_goals (with_reducible rfl))); (try simp only [List.getElem_toArray, List.getElem_cons_zero, List.getElem_cons_succ, Act.put, List.setIfInBounds_toArray, List.set_cons_zero, List.set_cons_succ])); (refine wpAnyH_take (i := 1) (v := ?_) rfl (by kernel_rfl) (by kernel_rfl) (by kernel_rfl) (fun _ _ _ h => h) (Or.inl ⟨by kernel_rfl, ?_⟩) (by assumption) ?_; rotate_left; (focus ((try simp only [List.getElem_toArray, List.getElem_cons_zero, List.getElem_cons_succ]); intro w hSw; (try dsimp only at hSw); go_simp; all_goals (with_reducible rfl))); (try simp only [List.getElem_toArray, List.getElem_cons_zero, List.getElem_cons_succ, Act.put, List.setIfInBounds_toArray, List.set_cons_zero, List.set_cons_succ])); (refine wpAnyH_take (i := 2) (v := ?_) rfl (by kernel_rfl) (by kernel_rfl) (by kernel_rfl) (fun _ _ _ h => h) (Or.inl ⟨by kernel_rfl, ?_⟩) (by assumption) ?_; rotate_left; (focus ((try simp only [List.getElem_toArray, List.getElem_cons_zero, List.getElem_cons_succ]); intro w hSw; (try dsimp only at hSw); go_simp; all_goals (with_reducible rfl))); (try simp only [List.getElem_toArray, List.getElem_cons_zero, List.getElem_cons_succ, Act.put, List.setIfInBounds_toArray, List.set_cons_zero, List.set_cons_succ])); (refine wpAnyH_take (i := 3) (v := ?_) rfl (by kernel_rfl) (by kernel_rfl) (by kernel_rfl) (fun _ _ _ h => h) (Or.inl ⟨by kernel_rfl, ?_⟩) (by assumption) ?_; rotate_left; (focus ((try simp only [List.getElem_toArray, List.getElem_cons_zero, List.getElem_cons_succ]); intro w hSw; (try dsimp only at hSw); go_simp; all_goals (with_reducible rfl))); (try simp only [List.getElem_toArray, List.getElem_cons_zero, List.getElem_cons_succ, Act.put, List.setIfInBounds_toArray, List.set_cons_zero, List.set_cons_succ])); (refine wpAnyH_take (i := 4) (v := ?_) rfl (by kernel_rfl) (by kernel_rfl) (by kernel_rfl) (fun _ _ _ h => h) (Or.inl ⟨by kernel_rfl, ?_⟩) (by assumption) ?_; rotate_left; (focus ((try simp only [List.getElem_toArray, List.getElem_cons_zero, List.getElem_cons_succ]); intro w hSw; (try dsimp only at hSw); go_simp; all_goals (with_reducible rfl))); (try simp only [List.getElem_toArray, List.getElem_cons_zero, List.getElem_cons_succ, Act.put, List.setIfInBounds_toArray, List.set_cons_zero, List.set_cons_succ])); (refine wpAnyH_take (i := 5) (v := ?_) rfl (by kernel_rfl) (by kernel_rfl) (by kernel_rfl) (fun _ _ _ h => h) (Or.inl ⟨by kernel_rfl, ?_⟩) (by assumption) ?_; rotate_left; (focus ((try simp only [List.getElem_toArray, List.getElem_cons_zero, List.getElem_cons_succ]); intro w hSw; (try dsimp only at hSw); go_simp; all_goals (with_reducible rfl))); (try simp only [List.getElem_toArray, List.getElem_cons_zero, List.getElem_cons_succ, Act.put, List.setIfInBounds_toArray, List.set_cons_zero, List.set_cons_succ])))
          ((refine wpAnyH_take (i := 6) (v := undef) rfl (by kernel_rfl) (by kernel_rfl) (by kernel_rfl) (fun _ _ _ h => h) (Or.inr ⟨by kernel_rfl, rfl⟩) (by assumption) ?_; (try simp only [List.getElem_toArray, List.getElem_cons_zero, List.getElem_cons_succ, Act.put, List.setIfInBounds_toArray, List.set_cons_zero, List.set_cons_succ])); (refine wpAnyH_take (i := 7) (v := undef) rfl (by kernel_rfl) (by kernel_rfl) (by kernel_rfl) (fun _ _ _ h => h) (Or.inr ⟨by kernel_rfl, rfl⟩) (by assumption) ?_; (try simp only [List.getElem_toArray, List.getElem_cons_zero, List.getElem_cons_succ, Act.put, List.setIfInBounds_toArray, List.set_cons_zero, List.set_cons_succ])); (refine wpAnyH_take (i := 8) (v := undef) rfl (by kernel_rfl) (by kernel_rfl) (by kernel_rfl) (fun _ _ _ h => h) (Or.inr ⟨by kernel_rfl, rfl⟩) (by assumption) ?_; (try simp only [List.getElem_toArray, List.getElem_cons_zero, List.getElem_cons_succ, Act.put, List.setIfInBounds_toArray, List.set_cons_zero, List.set_cons_succ])); (refine wpAnyH_take (i := 9) (v := undef) rfl (by kernel_rfl) (by kernel_rfl) (by kernel_rfl) (fun _ _ _ h => h) (Or.inr ⟨by kernel_rfl, rfl⟩) (by assumption) ?_; (try simp only [List.getElem_toArray, List.getElem_cons_zero, List.getElem_cons_succ, Act.put, List.setIfInBounds_toArray, List.set_cons_zero, List.set_cons_succ])))
          ((refine wpAnyH_take (i := 10) (v := ?_) rfl (by kernel_rfl) (by kernel_rfl) (by kernel_rfl) (fun _ _ _ h => h) (Or.inl ⟨by kernel_rfl, ?_⟩) (by assumption) ?_; rotate_left; (focus ((try simp only [List.getElem_toArray, List.getElem_cons_zero, List.getElem_cons_succ]); intro w hSw; (try dsimp only at hSw); go_simp; all_goals (with_reducible rfl))); (try simp only [List.getElem_toArray, List.getElem_cons_zero, List.getElem_cons_succ, Act.put, List.setIfInBounds_toArray, List.set_cons_zero, List.set_cons_succ])); (refine wpAnyH_take (i := 13) (v := ?_) rfl (by kernel_rfl) (by kernel_rfl) (by kernel_rfl) (fun _ _ _ h => h) (Or.inl ⟨by kernel_rfl, ?_⟩) (by assumption) ?_; rotate_left; (focus ((try simp only [List.getElem_toArray, List.getElem_cons_zero, List.getElem_cons_succ]); intro w hSw; (try dsimp only at hSw); go_simp; all_goals (with_reducible rfl))); (try simp only [List.getElem_toArray, List.getElem_cons_zero, List.getElem_cons_succ, Act.put, List.setIfInBounds_toArray, List.set_cons_zero, List.set_cons_succ])); (refine wpAnyH_take (i := 14) (v := ?_) rfl (by kernel_rfl) (by kernel_rfl) (by kernel_rfl) (fun _ _ _ h => h) (Or.inl ⟨by kernel_rfl, ?_⟩) (by assumption) ?_; rotate_left; (focus ((try simp only [List.getElem_toArray, List.getElem_cons_zero, List.getElem_cons_succ]); intro w hSw; (try dsimp only at hSw); go_simp; all_goals (with_reducible rfl))); (try simp only [List.getElem_toArray, List.getElem_cons_zero, List.getElem_cons_succ, Act.put, List.setIfInBounds_toArray, List.set_cons_zero, List.set_cons_succ])); (refine wpAnyH_take (i := 15) (v := ?_) rfl (by kernel_rfl) (by kernel_rfl) (by kernel_rfl) (fun _ _ _ h => h) (Or.inl ⟨by kernel_rfl, ?_⟩) (by assumption) ?_; rotate_left; (focus ((try simp only [List.getElem_toArray, List.getElem_cons_zero, List.getElem_cons_succ]); intro w hSw; (try dsimp only at hSw); go_simp; all_goals (with_reducible rfl))); (try simp only [List.getElem_toArray, List.getElem_cons_zero, List.getElem_cons_succ, Act.put, List.setIfInBounds_toArray, List.set_cons_zero, List.set_cons_succ])); (refine wpAnyH_take (i := 16) (v := ?_) rfl (by kernel_rfl) (by kernel_rfl) (by kernel_rfl) (fun _ _ _ h => h) (Or.inl ⟨by kernel_rfl, ?_⟩) (by assumption) ?_; rotate_left; (focus ((try simp only [List.getElem_toArray, List.getElem_cons_zero, List.getElem_cons_succ]); intro w hSw; (try dsimp only at hSw); go_simp; all_goals (with_reducible rfl))); (try simp only [List.getElem_toArray, List.getElem_cons_zero, List.getElem_cons_succ, Act.put, List.setIfInBounds_toArray, List.set_cons_zero, List.set_cons_succ])); (refine wpAnyH_take (i := 17) (v := ?_) rfl (by kernel_rfl) (by kernel_rfl) (by kernel_rfl) (fun _ _ _ h => h) (Or.inl ⟨by kernel_rfl, ?_⟩) (by assumption) ?_; rotate_left; (focus ((try simp only [List.getElem_toArray, List.getElem_cons_zero, List.getElem_cons_succ]); intro w hSw; (try dsimp only at hSw); go_simp; all_goals (with_reducible rfl))); (try simp only [List.getElem_toArray, List.getElem_cons_zero, List.getElem_cons_succ, Act.put, List.setIfInBounds_toArray, List.set_cons_zero, List.set_cons_succ])))
          (refine wpAnyH_ready (rs := [11]) (by kernel_rfl) (by simp) ?_; refine AllReadyH.cons rfl (fun K hK => ?_) AllReadyH.nil; (try simp only [List.getElem_toArray, List.getElem_cons_zero, List.getElem_cons_succ]))
          go_simp
          have g1 := hHeld.1; have g2 := hHeld.2.1; have g3 := hHeld.2.2
          (refine hK.out _ _ (by (try dsimp only); exact ⟨((World.cell?_alloc_lt _ _ _ (World.block_lt_of_cell? _ _ g1)).trans g1), ((World.cell?_alloc_lt _ _ _ (World.block_lt_of_cell? _ _ g2)).trans g2), g3.alloc g3.size _⟩) (fun hHeld => ?_); clear hK K; (try simp only [List.getElem_toArray, List.getElem_cons_zero, List.getElem_cons_succ, Act.put, List.setIfInBounds_toArray, List.set_cons_zero, List.set_cons_succ]))
          clear g1 g2 g3
          (refine wpAnyH_ready (rs := [12]) (by kernel_rfl) (by simp) ?_; refine AllReadyH.cons rfl (fun K hK => ?_) AllReadyH.nil; (try simp only [List.getElem_toArray, List.getElem_cons_zero, List.getElem_cons_succ]))
          rw [if_pos (by kernel_rfl)]
          refine wp_app eB _ _ rfl W.heap.size wr.drew B i cb _ rfl (show wr.drew.ownsRow _ _ _ _ _ _ from oa) #[.bool false] rfl rfl (one_bool _) (by omega) (by unfold maxLen; omega) hbel.size ?_
          rintro g cap w3 hL3
          have hL3b := Lies.other hL3 (show wr.drew.ownsRow _ _ _ _ _ _ from ob) hap
          obtain ⟨oa3, bl3, _, _, _⟩ := hL3
          obtain ⟨ob3, ap3⟩ := hL3b
          have b3 : Below W.heap.size W w3 := hbel.drew.trans bl3
          (refine hK.out _ _ (by (try dsimp only); exact ⟨(bl3.cell hb1).trans x1, (bl3.cell hb2).trans x2, b3⟩) (fun hHeld => ?_); clear hK K; (try simp only [List.getElem_toArray, List.getElem_cons_zero, List.getElem_cons_succ, Act.put, List.setIfInBounds_toArray, List.set_cons_zero, List.set_cons_succ]))
          ((refine wpAnyH_take (i := 18) (v := ?_) rfl (by kernel_rfl) (by kernel_rfl) (by kernel_rfl) (fun _ _ _ h => h) (Or.inl ⟨by kernel_rfl, ?_⟩) (by assumption) ?_; rotate_left; (focus ((try simp only [List.getElem_toArray, List.getElem_cons_zero, List.getElem_cons_succ]); intro w hSw; (try dsimp only at hSw); go_simp; all_goals (with_reducible rfl))); (try simp only [List.getElem_toArray, List.getElem_cons_zero, List.getElem_cons_succ, Act.put, List.setIfInBounds_toArray, List.set_cons_zero, List.set_cons_succ])))
          ((refine wpAnyH_take (i := 19) (v := ?_) rfl (by kernel_rfl) (by kernel_rfl) (by kernel_rfl) (fun _ _ _ h => h) (Or.inl ⟨by kernel_rfl, ?_⟩) (by assumption) ?_; rotate_left; (focus ((try simp only [List.getElem_toArray, List.getElem_cons_zero, List.getElem_cons_succ]); intro w hSw; (try dsimp only at hSw); go_simp; all_goals (with_reducible rfl))); (try simp only [List.getElem_toArray, List.getElem_cons_zero, List.getElem_cons_succ, Act.put, List.setIfInBounds_toArray, List.set_cons_zero, List.set_cons_succ])); (refine wpAnyH_take (i := 20) (v := ?_) rfl (by kernel_rfl) (by kernel_rfl) (by kernel_rfl) (fun _ _ _ h => h) (Or.inl ⟨by kernel_rfl, ?_⟩) (by assumption) ?_; rotate_left; (focus ((try simp only [List.getElem_toArray, List.getElem_cons_zero, List.getElem_cons_succ]); intro w hSw; (try dsimp only at hSw); go_simp; all_goals (with_reducible rfl))); (try simp only [List.getElem_toArray, List.getElem_cons_zero, List.getElem_cons_succ, Act.put, List.setIfInBounds_toArray, List.set_cons_zero, List.set_cons_succ])); (refine wpAnyH_take (i := 21) (v := ?_) rfl (by kernel_rfl) (by kernel_rfl) (by kernel_rfl) (fun _ _ _ h => h) (Or.inl ⟨by kernel_rfl, ?_⟩) (by assumption) ?_; rotate_left; (focus ((try simp only [List.getElem_toArray, List.getElem_cons_zero, List.getElem_cons_succ]); intro w hSw; (try dsimp only at hSw); go_simp; all_goals (with_reducible rfl))); (try simp only [List.getElem_toArray, List.getElem_cons_zero, List.getElem_cons_succ, Act.put, List.setIfInBounds_toArray, List.set_cons_zero, List.set_cons_succ])); (refine wpAnyH_take (i := 22) (v := ?_) rfl (by kernel_rfl) (by kernel_rfl) (by kernel_rfl) (fun _ _ _ h => h) (Or.inl ⟨by kernel_rfl, ?_⟩) (by assumption) ?_; rotate_left; (focus ((try simp only [List.getElem_toArray, List.getElem_cons_zero, List.getElem_cons_succ]); intro w hSw; (try dsimp only at hSw); go_simp; all_goals (with_reducible rfl))); (try simp only [List.getElem_toArray, List.getElem_cons_zero, List.getElem_cons_succ, Act.put, List.setIfInBounds_toArray, List.set_cons_zero, List.set_cons_succ])))
          ((refine wpAnyH_take (i := 23) (v := ?_) rfl (by kernel_rfl) (by kernel_rfl) (by kernel_rfl) (fun _ _ _ h => h) (Or.inl ⟨by kernel_rfl, ?_⟩) (by assumption) ?_; rotate_left; (focus ((try simp only [List.getElem_toArray, List.getElem_cons_zero, List.getElem_cons_succ]); intro w hSw; (try dsimp only at hSw); go_simp; all_goals (with_reducible rfl))); (try simp only [List.getElem_toArray, List.getElem_cons_zero, List.getElem_cons_succ, Act.put, List.setIfInBounds_toArray, List.set_cons_zero, List.set_cons_succ])))
          (refine wpAnyH_ready (rs := [24]) (by kernel_rfl) (by simp) ?_; refine AllReadyH.cons rfl (fun K hK => ?_) AllReadyH.nil; (try simp only [List.getElem_toArray, List.getElem_cons_zero, List.getElem_cons_succ]))
          go_simp
          have g1 := hHeld.1; have g2 := hHeld.2.1; have g3 := hHeld.2.2
          (refine hK.out _ _ (by (try dsimp only); exact ⟨((World.cell?_alloc_lt _ _ _ (World.block_lt_of_cell? _ _ g1)).trans g1), ((World.cell?_alloc_lt _ _ _ (World.block_lt_of_cell? _ _ g2)).trans g2), g3.alloc g3.size _⟩) (fun hHeld => ?_); clear hK K; (try simp only [List.getElem_toArray, List.getElem_cons_zero, List.getElem_cons_succ, Act.put, List.setIfInBounds_toArray, List.set_cons_zero, List.set_cons_succ]))
          clear g1 g2 g3
          (refine wpAnyH_ready (rs := [25]) (by kernel_rfl) (by simp) ?_; refine AllReadyH.cons rfl (fun K hK => ?_) AllReadyH.nil; (try simp only [List.getElem_toArray, List.getElem_cons_zero, List.getElem_cons_succ]))
          rw [if_pos (by kernel_rfl)]
          refine wp_app eB _ _ rfl W.heap.size w3 D i cd _ rfl ob3 #[.bool y] rfl rfl (one_bool _) (by omega) (by unfold maxLen; omega) b3.size ?_
          rintro g2 cap2 w4 hL4
          have hL4b := Lies.other hL4 oa3 ap3.symm
          obtain ⟨ob4, bl4, _, _, _⟩ := hL4
          obtain ⟨oa4, ap4⟩ := hL4b
          have b4 : Below W.heap.size W w4 := b3.trans bl4
          (refine hK.out _ _ (by (try dsimp only); exact ⟨(bl4.cell hb1).trans ((bl3.cell hb1).trans x1), (bl4.cell hb2).trans ((bl3.cell hb2).trans x2), b4⟩) (fun hHeld => ?_); clear hK K; (try simp only [List.getElem_toArray, List.getElem_cons_zero, List.getElem_cons_succ, Act.put, List.setIfInBounds_toArray, List.set_cons_zero, List.set_cons_succ]))
          ((refine wpAnyH_take (i := 26) (v := ?_) rfl (by kernel_rfl) (by kernel_rfl) (by kernel_rfl) (fun _ _ _ h => h) (Or.inl ⟨by kernel_rfl, ?_⟩) (by assumption) ?_; rotate_left; (focus ((try simp only [List.getElem_toArray, List.getElem_cons_zero, List.getElem_cons_succ]); intro w hSw; (try dsimp only at hSw); go_simp; all_goals (with_reducible rfl))); (try simp only [List.getElem_toArray, List.getElem_cons_zero, List.getElem_cons_succ, Act.put, List.setIfInBounds_toArray, List.set_cons_zero, List.set_cons_succ])); (refine wpAnyH_take (i := 27) (v := ?_) rfl (by kernel_rfl) (by kernel_rfl) (by kernel_rfl) (fun _ _ _ h => h) (Or.inl ⟨by kernel_rfl, ?_⟩) (by assumption) ?_; rotate_left; (focus ((try simp only [List.getElem_toArray, List.getElem_cons_zero, List.getElem_cons_succ]); intro w hSw; (try dsimp only at hSw); go_simp; all_goals (with_reducible rfl))); (try simp only [List.getElem_toArray, List.getElem_cons_zero, List.getElem_cons_succ, Act.put, List.setIfInBounds_toArray, List.set_cons_zero, List.set_cons_succ])))
          (refine wpAnyH_done (by kernel_rfl) ?_ _)
          rw [cB_snoc2, show (false : Bool) = and false y by cases y <;> rfl, ← T1.out] at oa4
          rw [cB_snoc2, show (y : Bool) = or false y by cases y <;> rfl, ← T2.out] at ob4
          go_wp2
          go_roundw
          case rel => exact ⟨i + 1, _, _, _, _, by omega, by go_num, rfl, rfl, oa4, ob4, ap4.symm, b4⟩
          case measure => simp [intOf]; omega
        · skip
          refine wp_region_held_drew (S := (fun w' => w'.cell? ⟨b, off + i, none⟩ = some (.bool true) ∧ w'.cell? ⟨b2, off2 + i, none⟩ = some (.bool y) ∧ Below W.heap.size W w')) (by kernel_rfl) ⟨x1, x2, hbel.drew⟩ (fun hHeld => ?_)
          ((refine wpAnyH_take (i := 0) (v := ?_) rfl (by kernel_rfl) (by kernel_rfl) (by kernel_rfl) (fun _ _ _ h => h) (Or.inl ⟨by kernel_rfl, ?_⟩) (by assumption) ?_; rotate_left; (focus ((try simp only [List.getElem_toArray, List.getElem_cons_zero, List.getElem_cons_succ]); intro w hSw; (try dsimp only at hSw); go_simp; all_goals (with_reducible rfl))); (try simp only [List.getElem_toArray, List.getElem_cons_zero, List.getElem_cons_succ, Act.put, List.setIfInBounds_toArray, List.set_cons_zero, List.set_cons_succ])); (refine wpAnyH_take (i := 1) (v := ?_) rfl (by kernel_rfl) (by kernel_rfl) (by kernel_rfl) (fun _ _ _ h => h) (Or.inl ⟨by kernel_rfl, ?_⟩) (by assumption) ?_; rotate_left; (focus ((try simp only [List.getElem_toArray, List.getElem_cons_zero, List.getElem_cons_succ]); intro w hSw; (try dsimp only at hSw); go_simp; all_goals (with_reducible rfl))); (try simp only [List.getElem_toArray, List.getElem_cons_zero, List.getElem_cons_succ, Act.put, List.setIfInBounds_toArray, List.set_cons_zero, List.set_cons_succ])); (refine wpAnyH_take (i := 2) (v := ?_) rfl (by kernel_rfl) (by kernel_rfl) (by kernel_rfl) (fun _ _ _ h => h) (Or.inl ⟨by kernel_rfl, ?_⟩) (by assumption) ?_; rotate_left; (focus ((try simp only [List.getElem_toArray, List.getElem_cons_zero, List.getElem_cons_succ]); intro w hSw; (try dsimp only at hSw); go_simp; all_goals (with_reducible rfl))); (try simp only [List.getElem_toArray, List.getElem_cons_zero, List.getElem_cons_succ, Act.put, List.setIfInBounds_toArray, List.set_cons_zero, List.set_cons_succ])); (refine wpAnyH_take (i := 3) (v := ?_) rfl (by kernel_rfl) (by kernel_rfl) (by kernel_rfl) (fun _ _ _ h => h) (Or.inl ⟨by kernel_rfl, ?_⟩) (by assumption) ?_; rotate_left; (focus ((try simp only [List.getElem_toArray, List.getElem_cons_zero, List.getElem_cons_succ]); intro w hSw; (try dsimp only at hSw); go_simp; all_goals (with_reducible rfl))); (try simp only [List.getElem_toArray, List.getElem_cons_zero, List.getElem_cons_succ, Act.put, List.setIfInBounds_toArray, List.set_cons_zero, List.set_cons_succ])); (refine wpAnyH_take (i := 4) (v := ?_) rfl (by kernel_rfl) (by kernel_rfl) (by kernel_rfl) (fun _ _ _ h => h) (Or.inl ⟨by kernel_rfl, ?_⟩) (by assumption) ?_; rotate_left; (focus ((try simp only [List.getElem_toArray, List.getElem_cons_zero, List.getElem_cons_succ]); intro w hSw; (try dsimp only at hSw); go_simp; all_goals (with_reducible rfl))); (try simp only [List.getElem_toArray, List.getElem_cons_zero, List.getElem_cons_succ, Act.put, List.setIfInBounds_toArray, List.set_cons_zero, List.set_cons_succ])); (refine wpAnyH_take (i := 5) (v := ?_) rfl (by kernel_rfl) (by kernel_rfl) (by kernel_rfl) (fun _ _ _ h => h) (Or.inl ⟨by kernel_rfl, ?_⟩) (by assumption) ?_; rotate_left; (focus ((try simp only [List.getElem_toArray, List.getElem_cons_zero, List.getElem_cons_succ]); intro w hSw; (try dsimp only at hSw); go_simp; all_goals (with_reducible rfl))); (try simp only [List.getElem_toArray, List.getElem_cons_zero, List.getElem_cons_succ, Act.put, List.setIfInBounds_toArray, List.set_cons_zero, List.set_cons_succ])))
          ((refine wpAnyH_take (i := 6) (v := ?_) rfl (by kernel_rfl) (by kernel_rfl) (by kernel_rfl) (fun _ _ _ h => h) (Or.inl ⟨by kernel_rfl, ?_⟩) (by assumption) ?_; rotate_left; (focus ((try simp only [List.getElem_toArray, List.getElem_cons_zero, List.getElem_cons_succ]); intro w hSw; (try dsimp only at hSw); go_simp; all_goals (with_reducible rfl))); (try simp only [List.getElem_toArray, List.getElem_cons_zero, List.getElem_cons_succ, Act.put, List.setIfInBounds_toArray, List.set_cons_zero, List.set_cons_succ])); (refine wpAnyH_take (i := 7) (v := ?_) rfl (by kernel_rfl) (by kernel_rfl) (by kernel_rfl) (fun _ _ _ h => h) (Or.inl ⟨by kernel_rfl, ?_⟩) (by assumption) ?_; rotate_left; (focus ((try simp only [List.getElem_toArray, List.getElem_cons_zero, List.getElem_cons_succ]); intro w hSw; (try dsimp only at hSw); go_simp; all_goals (with_reducible rfl))); (try simp only [List.getElem_toArray, List.getElem_cons_zero, List.getElem_cons_succ, Act.put, List.setIfInBounds_toArray, List.set_cons_zero, List.set_cons_succ])); (refine wpAnyH_take (i := 8) (v := ?_) rfl (by kernel_rfl) (by kernel_rfl) (by kernel_rfl) (fun _ _ _ h => h) (Or.inl ⟨by kernel_rfl, ?_⟩) (by assumption) ?_; rotate_left; (focus ((try simp only [List.getElem_toArray, List.getElem_cons_zero, List.getElem_cons_succ]); intro w hSw; (try dsimp only at hSw); go_simp; all_goals (with_reducible rfl))); (try simp only [List.getElem_toArray, List.getElem_cons_zero, List.getElem_cons_succ, Act.put, List.setIfInBounds_toArray, List.set_cons_zero, List.set_cons_succ])); (refine wpAnyH_take (i := 9) (v := ?_) rfl (by kernel_rfl) (by kernel_rfl) (by kernel_rfl) (fun _ _ _ h => h) (Or.inl ⟨by kernel_rfl, ?_⟩) (by assumption) ?_; rotate_left; (focus ((try simp only [List.getElem_toArray, List.getElem_cons_zero, List.getElem_cons_succ]); intro w hSw; (try dsimp only at hSw); go_simp; all_goals (with_reducible rfl))); (try simp only [List.getElem_toArray, List.getElem_cons_zero, List.getElem_cons_succ, Act.put, List.setIfInBounds_toArray, List.set_cons_zero, List.set_cons_succ])))
          ((refine wpAnyH_take (i := 10) (v := ?_) rfl (by kernel_rfl) (by kernel_rfl) (by kernel_rfl) (fun _ _ _ h => h) (Or.inl ⟨by kernel_rfl, ?_⟩) (by assumption) ?_; rotate_left; (focus ((try simp only [List.getElem_toArray, List.getElem_cons_zero, List.getElem_cons_succ]); intro w hSw; (try dsimp only at hSw); go_simp; all_goals (with_reducible rfl))); (try simp only [List.getElem_toArray, List.getElem_cons_zero, List.getElem_cons_succ, Act.put, List.setIfInBounds_toArray, List.set_cons_zero, List.set_cons_succ])); (refine wpAnyH_take (i := 13) (v := ?_) rfl (by kernel_rfl) (by kernel_rfl) (by kernel_rfl) (fun _ _ _ h => h) (Or.inl ⟨by kernel_rfl, ?_⟩) (by assumption) ?_; rotate_left; (focus ((try simp only [List.getElem_toArray, List.getElem_cons_zero, List.getElem_cons_succ]); intro w hSw; (try dsimp only at hSw); go_simp; all_goals (with_reducible rfl))); (try simp only [List.getElem_toArray, List.getElem_cons_zero, List.getElem_cons_succ, Act.put, List.setIfInBounds_toArray, List.set_cons_zero, List.set_cons_succ])); (refine wpAnyH_take (i := 14) (v := ?_) rfl (by kernel_rfl) (by kernel_rfl) (by kernel_rfl) (fun _ _ _ h => h) (Or.inl ⟨by kernel_rfl, ?_⟩) (by assumption) ?_; rotate_left; (focus ((try simp only [List.getElem_toArray, List.getElem_cons_zero, List.getElem_cons_succ]); intro w hSw; (try dsimp only at hSw); go_simp; all_goals (with_reducible rfl))); (try simp only [List.getElem_toArray, List.getElem_cons_zero, List.getElem_cons_succ, Act.put, List.setIfInBounds_toArray, List.set_cons_zero, List.set_cons_succ])); (refine wpAnyH_take (i := 15) (v := ?_) rfl (by kernel_rfl) (by kernel_rfl) (by kernel_rfl) (fun _ _ _ h => h) (Or.inl ⟨by kernel_rfl, ?_⟩) (by assumption) ?_; rotate_left; (focus ((try simp only [List.getElem_toArray, List.getElem_cons_zero, List.getElem_cons_succ]); intro w hSw; (try dsimp only at hSw); go_simp; all_goals (with_reducible rfl))); (try simp only [List.getElem_toArray, List.getElem_cons_zero, List.getElem_cons_succ, Act.put, List.setIfInBounds_toArray, List.set_cons_zero, List.set_cons_succ])); (refine wpAnyH_take (i := 16) (v := ?_) rfl (by kernel_rfl) (by kernel_rfl) (by kernel_rfl) (fun _ _ _ h => h) (Or.inl ⟨by kernel_rfl, ?_⟩) (by assumption) ?_; rotate_left; (focus ((try simp only [List.getElem_toArray, List.getElem_cons_zero, List.getElem_cons_succ]); intro w hSw; (try dsimp only at hSw); go_simp; all_goals (with_reducible rfl))); (try simp only [List.getElem_toArray, List.getElem_cons_zero, List.getElem_cons_succ, Act.put, List.setIfInBounds_toArray, List.set_cons_zero, List.set_cons_succ])); (refine wpAnyH_take (i := 17) (v := ?_) rfl (by kernel_rfl) (by kernel_rfl) (by kernel_rfl) (fun _ _ _ h => h) (Or.inl ⟨by kernel_rfl, ?_⟩) (by assumption) ?_; rotate_left; (focus ((try simp only [List.getElem_toArray, List.getElem_cons_zero, List.getElem_cons_succ]); intro w hSw; (try dsimp only at hSw); go_simp; all_goals (with_reducible rfl))); (try simp only [List.getElem_toArray, List.getElem_cons_zero, List.getElem_cons_succ, Act.put, List.setIfInBounds_toArray, List.set_cons_zero, List.set_cons_succ])))
          (refine wpAnyH_ready (rs := [11]) (by kernel_rfl) (by simp) ?_; refine AllReadyH.cons rfl (fun K hK => ?_) AllReadyH.nil; (try simp only [List.getElem_toArray, List.getElem_cons_zero, List.getElem_cons_succ]))
          go_simp
          have g1 := hHeld.1; have g2 := hHeld.2.1; have g3 := hHeld.2.2
          (refine hK.out _ _ (by (try dsimp only); exact ⟨((World.cell?_alloc_lt _ _ _ (World.block_lt_of_cell? _ _ g1)).trans g1), ((World.cell?_alloc_lt _ _ _ (World.block_lt_of_cell? _ _ g2)).trans g2), g3.alloc g3.size _⟩) (fun hHeld => ?_); clear hK K; (try simp only [List.getElem_toArray, List.getElem_cons_zero, List.getElem_cons_succ, Act.put, List.setIfInBounds_toArray, List.set_cons_zero, List.set_cons_succ]))
          clear g1 g2 g3
          (refine wpAnyH_ready (rs := [12]) (by kernel_rfl) (by simp) ?_; refine AllReadyH.cons rfl (fun K hK => ?_) AllReadyH.nil; (try simp only [List.getElem_toArray, List.getElem_cons_zero, List.getElem_cons_succ]))
          rw [if_pos (by kernel_rfl)]
          refine wp_app eB _ _ rfl W.heap.size wr.drew B i cb _ rfl (show wr.drew.ownsRow _ _ _ _ _ _ from oa) #[.bool y] rfl rfl (one_bool _) (by omega) (by unfold maxLen; omega) hbel.size ?_
          rintro g cap w3 hL3
          have hL3b := Lies.other hL3 (show wr.drew.ownsRow _ _ _ _ _ _ from ob) hap
          obtain ⟨oa3, bl3, _, _, _⟩ := hL3
          obtain ⟨ob3, ap3⟩ := hL3b
          have b3 : Below W.heap.size W w3 := hbel.drew.trans bl3
          (refine hK.out _ _ (by (try dsimp only); exact ⟨(bl3.cell hb1).trans x1, (bl3.cell hb2).trans x2, b3⟩) (fun hHeld => ?_); clear hK K; (try simp only [List.getElem_toArray, List.getElem_cons_zero, List.getElem_cons_succ, Act.put, List.setIfInBounds_toArray, List.set_cons_zero, List.set_cons_succ]))
          ((refine wpAnyH_take (i := 18) (v := ?_) rfl (by kernel_rfl) (by kernel_rfl) (by kernel_rfl) (fun _ _ _ h => h) (Or.inl ⟨by kernel_rfl, ?_⟩) (by assumption) ?_; rotate_left; (focus ((try simp only [List.getElem_toArray, List.getElem_cons_zero, List.getElem_cons_succ]); intro w hSw; (try dsimp only at hSw); go_simp; all_goals (with_reducible rfl))); (try simp only [List.getElem_toArray, List.getElem_cons_zero, List.getElem_cons_succ, Act.put, List.setIfInBounds_toArray, List.set_cons_zero, List.set_cons_succ])))
          ((refine wpAnyH_take (i := 19) (v := undef) rfl (by kernel_rfl) (by kernel_rfl) (by kernel_rfl) (fun _ _ _ h => h) (Or.inr ⟨by kernel_rfl, rfl⟩) (by assumption) ?_; (try simp only [List.getElem_toArray, List.getElem_cons_zero, List.getElem_cons_succ, Act.put, List.setIfInBounds_toArray, List.set_cons_zero, List.set_cons_succ])); (refine wpAnyH_take (i := 20) (v := undef) rfl (by kernel_rfl) (by kernel_rfl) (by kernel_rfl) (fun _ _ _ h => h) (Or.inr ⟨by kernel_rfl, rfl⟩) (by assumption) ?_; (try simp only [List.getElem_toArray, List.getElem_cons_zero, List.getElem_cons_succ, Act.put, List.setIfInBounds_toArray, List.set_cons_zero, List.set_cons_succ])); (refine wpAnyH_take (i := 21) (v := undef) rfl (by kernel_rfl) (by kernel_rfl) (by kernel_rfl) (fun _ _ _ h => h) (Or.inr ⟨by kernel_rfl, rfl⟩) (by assumption) ?_; (try simp only [List.getElem_toArray, List.getElem_cons_zero, List.getElem_cons_succ, Act.put, List.setIfInBounds_toArray, List.set_cons_zero, List.set_cons_succ])); (refine wpAnyH_take (i := 22) (v := undef) rfl (by kernel_rfl) (by kernel_rfl) (by kernel_rfl) (fun _ _ _ h => h) (Or.inr ⟨by kernel_rfl, rfl⟩) (by assumption) ?_; (try simp only [List.getElem_toArray, List.getElem_cons_zero, List.getElem_cons_succ, Act.put, List.setIfInBounds_toArray, List.set_cons_zero, List.set_cons_succ])))
          ((refine wpAnyH_take (i := 23) (v := ?_) rfl (by kernel_rfl) (by kernel_rfl) (by kernel_rfl) (fun _ _ _ h => h) (Or.inl ⟨by kernel_rfl, ?_⟩) (by assumption) ?_; rotate_left; (focus ((try simp only [List.getElem_toArray, List.getElem_cons_zero, List.getElem_cons_succ]); intro w hSw; (try dsimp only at hSw); go_simp; all_goals (with_reducible rfl))); (try simp only [List.getElem_toArray, List.getElem_cons_zero, List.getElem_cons_succ, Act.put, List.setIfInBounds_toArray, List.set_cons_zero, List.set_cons_succ])))
          (refine wpAnyH_ready (rs := [24]) (by kernel_rfl) (by simp) ?_; refine AllReadyH.cons rfl (fun K hK => ?_) AllReadyH.nil; (try simp only [List.getElem_toArray, List.getElem_cons_zero, List.getElem_cons_succ]))
          go_simp
          have g1 := hHeld.1; have g2 := hHeld.2.1; have g3 := hHeld.2.2
          (refine hK.out _ _ (by (try dsimp only); exact ⟨((World.cell?_alloc_lt _ _ _ (World.block_lt_of_cell? _ _ g1)).trans g1), ((World.cell?_alloc_lt _ _ _ (World.block_lt_of_cell? _ _ g2)).trans g2), g3.alloc g3.size _⟩) (fun hHeld => ?_); clear hK K; (try simp only [List.getElem_toArray, List.getElem_cons_zero, List.getElem_cons_succ, Act.put, List.setIfInBounds_toArray, List.set_cons_zero, List.set_cons_succ]))
          clear g1 g2 g3
          (refine wpAnyH_ready (rs := [25]) (by kernel_rfl) (by simp) ?_; refine AllReadyH.cons rfl (fun K hK => ?_) AllReadyH.nil; (try simp only [List.getElem_toArray, List.getElem_cons_zero, List.getElem_cons_succ]))
          rw [if_pos (by kernel_rfl)]
          refine wp_app eB _ _ rfl W.heap.size w3 D i cd _ rfl ob3 #[.bool true] rfl rfl (one_bool _) (by omega) (by unfold maxLen; omega) b3.size ?_
          rintro g2 cap2 w4 hL4
          have hL4b := Lies.other hL4 oa3 ap3.symm
          obtain ⟨ob4, bl4, _, _, _⟩ := hL4
          obtain ⟨oa4, ap4⟩ := hL4b
          have b4 : Below W.heap.size W w4 := b3.trans bl4
          (refine hK.out _ _ (by (try dsimp only); exact ⟨(bl4.cell hb1).trans ((bl3.cell hb1).trans x1), (bl4.cell hb2).trans ((bl3.cell hb2).trans x2), b4⟩) (fun hHeld => ?_); clear hK K; (try simp only [List.getElem_toArray, List.getElem_cons_zero, List.getElem_cons_succ, Act.put, List.setIfInBounds_toArray, List.set_cons_zero, List.set_cons_succ]))
          ((refine wpAnyH_take (i := 26) (v := ?_) rfl (by kernel_rfl) (by kernel_rfl) (by kernel_rfl) (fun _ _ _ h => h) (Or.inl ⟨by kernel_rfl, ?_⟩) (by assumption) ?_; rotate_left; (focus ((try simp only [List.getElem_toArray, List.getElem_cons_zero, List.getElem_cons_succ]); intro w hSw; (try dsimp only at hSw); go_simp; all_goals (with_reducible rfl))); (try simp only [List.getElem_toArray, List.getElem_cons_zero, List.getElem_cons_succ, Act.put, List.setIfInBounds_toArray, List.set_cons_zero, List.set_cons_succ])); (refine wpAnyH_take (i := 27) (v := ?_) rfl (by kernel_rfl) (by kernel_rfl) (by kernel_rfl) (fun _ _ _ h => h) (Or.inl ⟨by kernel_rfl, ?_⟩) (by assumption) ?_; rotate_left; (focus ((try simp only [List.getElem_toArray, List.getElem_cons_zero, List.getElem_cons_succ]); intro w hSw; (try dsimp only at hSw); go_simp; all_goals (with_reducible rfl))); (try simp only [List.getElem_toArray, List.getElem_cons_zero, List.getElem_cons_succ, Act.put, List.setIfInBounds_toArray, List.set_cons_zero, List.set_cons_succ])))
          (refine wpAnyH_done (by kernel_rfl) ?_ _)
          rw [cB_snoc2, show (y : Bool) = and true y by cases y <;> rfl, ← T1.out] at oa4
          rw [cB_snoc2, show (true : Bool) = or true y by cases y <;> rfl, ← T2.out] at ob4
          go_wp2
          go_roundw
          case rel => exact ⟨i + 1, _, _, _, _, by omega, by go_num, rfl, rfl, oa4, ob4, ap4.symm, b4⟩
          case measure => simp [intOf]; omega
      · obtain rfl : n1 = i := by omega
        have rA := Lib.hid (Rd.of_own oa)
        have rB := Lib.hid (Rd.of_own ob)
        clear oa ob hap
        go_wp2_with fail
        refine (Search_any la A0 n1 _ n1 wr (ra1.out.on hbel) (by omega)).mono ?_
        rintro e w1 ⟨x, hx, rfl, hb1⟩
        have hsx := Lib.hid (hx.step (HBA.out.1 (by first | rfl | trivial)).mono)
        have hxn := hx.1
        clear hx
        go_wp2_with fail
        refine (Search_any lb A1 n1 _ n1 w1 (rb1.out.on (below_step hbel hb1)) (by omega)).mono ?_
        rintro e w2 ⟨y, hy, rfl, hb2⟩
        have hsy := Lib.hid (hy.step (HBB.out.1 (by first | rfl | trivial)).mono)
        have hyn := hy.1
        clear hy
        have bl2 := below_step (below_step hbel hb1) hb2
        have HS1 := Lib.hid (both_step HLa.out HLb.out hsx.out hsy.out)
        have HS2 := Lib.hid (one_step HLa.out HLb.out hsx.out hsy.out)
        have ex : ((x : Int) == (x : Int)) = true := by simp
        have ey : ((y : Int) == (y : Int)) = true := by simp
        go_wp2_with fail
        refine (First_any la A0 n1 _ n1 w2 (ra1.out.on bl2) (by omega) (by omega)).mono ?_
        rintro e w3 ⟨u, hu, rfl, rfl⟩
        obtain rfl := hsx.out.first hu
        clear hu
        go_wp2_with fail
        refine (First_any lb A1 n1 _ n1 w2 (rb1.out.on bl2) (by omega) (by omega)).mono ?_
        rintro e w3 ⟨v, hv, rfl, rfl⟩
        obtain rfl := hsy.out.first hv
        clear hv
        rcases Nat.lt_or_ge v u with hvu | hvu
        all_goals
          first
            | (have hM : Hid (max u v = u ∧ min u v = v) := ⟨by omega, by omega⟩)
            | (have hM : Hid (max u v = v ∧ min u v = u) := ⟨by omega, by omega⟩)
          rw [hM.out.1] at HS1
          rw [hM.out.2] at HS2
          clear hM
          go_wp2_with fail
          refine (Search_any _ B n1 cb n1 w2 (rA.out.on (below_step hb1 hb2)) (by omega)).mono ?_
          rintro e w3 ⟨r, hr, rfl, hb3⟩
          obtain rfl := HS1.out.cut hr
          clear hr HS1
          go_wp2_with fail
          all_goals
            refine (Search_any _ D n1 cd n1 w3 (rB.out.on (below_step (below_step hb1 hb2) hb3)) (by omega)).mono ?_
            rintro e w4 ⟨r, hr, rfl, hb4⟩
            obtain rfl := HS2.out.cut hr
            clear hr HS2
            go_wp2
            go_ret
            exact ⟨by simp, below_step hbq (below_step (below_step bl2 hb3) hb4)⟩
  · have q0 : (0 : Int) ≤ (n0 : Int) := Int.natCast_nonneg _
    have q1 : (n0 : Int) ≤ (c0 : Int) := by omega
    have q2 : (n0 : Int) ≤ (c1 : Int) := by omega
    have q3 : (n0 : Int) ≤ (n1 : Int) := by omega
    have HLa : Hid ((l0.take n0).length = n0) := by unfold Hid; rw [List.length_take, rdB_len r0]; omega
    have HLb : Hid ((l1.take n0).length = n0) := by unfold Hid; rw [List.length_take, rdB_len r1]; omega
    have ra := Lib.hid (rd_takeB r0 (k := n0) (by omega))
    have rb := Lib.hid (rd_takeB r1 (k := n0) (by omega))
    clear r0 r1
    generalize l0.take n0 = la at ra HLa
    generalize l1.take n0 = lb at rb HLb
    go_enter Try.func5, Try.ntmps5
    go_wp2_with fail
    go_quiet (fail)
    have hbq : Below w.heap.size w (w.drewN nq) := below_drewN w nq
    have ra1 := Lib.hid (ra.out.on hbq)
    have rb1 := Lib.hid (rb.out.on hbq)
    clear ra rb
    generalize w.drewN nq = W at hbq ra1 rb1 ⊢
    go_wp2_with fail
    refine (Rising_any la A0 n0 _ n0 W ra1.out (by omega) (by omega)).mono ?_
    rintro e w' ⟨ba, hba, rfl, rfl⟩
    have HBA := Lib.hid hba
    clear hba
    cases ba
    · go_wp2
      go_ret
      exact ⟨rfl, hbq⟩
    go_wp2_with fail
    refine (Rising_any lb A1 n0 _ n0 W rb1.out (by omega) (by omega)).mono ?_
    rintro e w' ⟨bb, hbb, rfl, rfl⟩
    have HBB := Lib.hid hbb
    clear hbb
    cases bb
    · go_wp2
      go_ret
      exact ⟨rfl, hbq⟩
    go_wp2_with fail
    go_loopw [6, 7, 33] (fun va vb s wr => ∃ (i : Nat) (B D : Option Addr) (cb cd : Nat), i ≤ n0 ∧ s = .int .i64 i ∧ va = .slice B i cb ∧ vb = .slice D i cd ∧
      wr.ownsRow W.heap.size 4 1 (.slice B i cb) i (cB (zipB and la lb i)) ∧ wr.ownsRow W.heap.size 4 1 (.slice D i cd) i (cB (zipB or la lb i)) ∧ Hid (Apt (.slice D i cd) (.slice B i cb)) ∧ Below W.heap.size W wr) (fun _ _ s _ => n0 - (intOf s).toNat)
    case atStart => exact ⟨0, none, none, 0, 0, Nat.zero_le _, rfl, rfl, rfl, by simpa [cB, zipB] using own_nil _ _ _ _, by simpa [cB, zipB] using own_nil _ _ _ _, Apt.nil _, Below.refl _ _⟩
    case round =>
      obtain ⟨i, B, D, cb, cd, hi, rfl, rfl, rfl, oa, ob, hap, hbel⟩ := hrel
      by_cases hlt : i < n0
      · obtain ⟨b, off, rfl, hb1, x1⟩ := rdB_at (k := i) (ra1.out.below hbel) hlt
        obtain ⟨b2, off2, rfl, hb2, x2⟩ := rdB_at (k := i) (rb1.out.below hbel) hlt
        have T1 := Lib.hid (zipB_succ and la lb i)
        have T2 := Lib.hid (zipB_succ or la lb i)
        generalize la[i]?.getD false = x at x1 T1 T2
        generalize lb[i]?.getD false = y at x2 T1 T2
        have i0 : (0 : Int) ≤ (i : Int) := Int.natCast_nonneg _
        have i1 : (i : Int) < (n0 : Int) := by omega
        go_wp2_with fail
        cases x
        · skip
          refine wp_region_held_drew (S := (fun w' => w'.cell? ⟨b, off + i, none⟩ = some (.bool false) ∧ w'.cell? ⟨b2, off2 + i, none⟩ = some (.bool y) ∧ Below W.heap.size W w')) (by kernel_rfl) ⟨x1, x2, hbel.drew⟩ (fun hHeld => ?_)
          ((refine wpAnyH_take (i := 0) (v := ?_) rfl (by kernel_rfl) (by kernel_rfl) (by kernel_rfl) (fun _ _ _ h => h) (Or.inl ⟨by kernel_rfl, ?_⟩) (by assumption) ?_; rotate_left; (focus ((try simp only [List.getElem_toArray, List.getElem_cons_zero, List.getElem_cons_succ]); intro w hSw; (try dsimp only at hSw); go_simp; all_goals (with_reducible rfl))); (try simp only [List.getElem_toArray, List.getElem_cons_zero, List.getElem_cons_succ, Act.put, List.setIfInBounds_toArray, List.set_cons_zero, List.set_cons_succ])); (refine wpAnyH_take (i := 1) (v := ?_) rfl (by kernel_rfl) (by kernel_rfl) (by kernel_rfl) (fun _ _ _ h => h) (Or.inl ⟨by kernel_rfl, ?_⟩) (by assumption) ?_; rotate_left; (focus ((try simp only [List.getElem_toArray, List.getElem_cons_zero, List.getElem_cons_succ]); intro w hSw; (try dsimp only at hSw); go_simp; all_goals (with_reducible rfl))); (try simp only [List.getElem_toArray, List.getElem_cons_zero, List.getElem_cons_succ, Act.put, List.setIfInBounds_toArray, List.set_cons_zero, List.set_cons_succ])); (refine wpAnyH_take (i := 2) (v := ?_) rfl (by kernel_rfl) (by kernel_rfl) (by kernel_rfl) (fun _ _ _ h => h) (Or.inl ⟨by kernel_rfl, ?_⟩) (by assumption) ?_; rotate_left; (focus ((try simp only [List.getElem_toArray, List.getElem_cons_zero, List.getElem_cons_succ]); intro w hSw; (try dsimp only at hSw); go_simp; all_goals (with_reducible rfl))); (try simp only [List.getElem_toArray, List.getElem_cons_zero, List.getElem_cons_succ, Act.put, List.setIfInBounds_toArray, List.set_cons_zero, List.set_cons_succ])); (refine wpAnyH_take (i := 3) (v := ?_) rfl (by kernel_rfl) (by kernel_rfl) (by kernel_rfl) (fun _ _ _ h => h) (Or.inl ⟨by kernel_rfl, ?_⟩) (by assumption) ?_; rotate_left; (focus ((try simp only [List.getElem_toArray, List.getElem_cons_zero, List.getElem_cons_succ]); intro w hSw; (try dsimp only at hSw); go_simp; all_goals (with_reducible rfl))); (try simp only [List.getElem_toArray, List.getElem_cons_zero, List.getElem_cons_succ, Act.put, List.setIfInBounds_toArray, List.set_cons_zero, List.set_cons_succ])); (refine wpAnyH_take (i := 4) (v := ?_) rfl (by kernel_rfl) (by kernel_rfl) (by kernel_rfl) (fun _ _ _ h => h) (Or.inl ⟨by kernel_rfl, ?_⟩) (by assumption) ?_; rotate_left; (focus ((try simp only [List.getElem_toArray, List.getElem_cons_zero, List.getElem_cons_succ]); intro w hSw; (try dsimp only at hSw); go_simp; all_goals (with_reducible rfl))); (try simp only [List.getElem_toArray, List.getElem_cons_zero, List.getElem_cons_succ, Act.put, List.setIfInBounds_toArray, List.set_cons_zero, List.set_cons_succ])); (refine wpAnyH_take (i := 5) (v := ?_) rfl (by kernel_rfl) (by kernel_rfl) (by kernel_rfl) (fun _ _ _ h => h) (Or.inl ⟨by kernel_rfl, ?_⟩) (by assumption) ?_; rotate_left; (focus ((try simp only [List.getElem_toArray, List.getElem_cons_zero, List.getElem_cons_succ]); intro w hSw; (try dsimp only at hSw); go_simp; all_goals (with_reducible rfl))); (try simp only [List.getElem_toArray, List.getElem_cons_zero, List.getElem_cons_succ, Act.put, List.setIfInBounds_toArray, List.set_cons_zero, List.set_cons_succ])))
          ((refine wpAnyH_take (i := 6) (v := undef) rfl (by kernel_rfl) (by kernel_rfl) (by kernel_rfl) (fun _ _ _ h => h) (Or.inr ⟨by kernel_rfl, rfl⟩) (by assumption) ?_; (try simp only [List.getElem_toArray, List.getElem_cons_zero, List.getElem_cons_succ, Act.put, List.setIfInBounds_toArray, List.set_cons_zero, List.set_cons_succ])); (refine wpAnyH_take (i := 7) (v := undef) rfl (by kernel_rfl) (by kernel_rfl) (by kernel_rfl) (fun _ _ _ h => h) (Or.inr ⟨by kernel_rfl, rfl⟩) (by assumption) ?_; (try simp only [List.getElem_toArray, List.getElem_cons_zero, List.getElem_cons_succ, Act.put, List.setIfInBounds_toArray, List.set_cons_zero, List.set_cons_succ])); (refine wpAnyH_take (i := 8) (v := undef) rfl (by kernel_rfl) (by kernel_rfl) (by kernel_rfl) (fun _ _ _ h => h) (Or.inr ⟨by kernel_rfl, rfl⟩) (by assumption) ?_; (try simp only [List.getElem_toArray, List.getElem_cons_zero, List.getElem_cons_succ, Act.put, List.setIfInBounds_toArray, List.set_cons_zero, List.set_cons_succ])); (refine wpAnyH_take (i := 9) (v := undef) rfl (by kernel_rfl) (by kernel_rfl) (by kernel_rfl) (fun _ _ _ h => h) (Or.inr ⟨by kernel_rfl, rfl⟩) (by assumption) ?_; (try simp only [List.getElem_toArray, List.getElem_cons_zero, List.getElem_cons_succ, Act.put, List.setIfInBounds_toArray, List.set_cons_zero, List.set_cons_succ])))
          ((refine wpAnyH_take (i := 10) (v := ?_) rfl (by kernel_rfl) (by kernel_rfl) (by kernel_rfl) (fun _ _ _ h => h) (Or.inl ⟨by kernel_rfl, ?_⟩) (by assumption) ?_; rotate_left; (focus ((try simp only [List.getElem_toArray, List.getElem_cons_zero, List.getElem_cons_succ]); intro w hSw; (try dsimp only at hSw); go_simp; all_goals (with_reducible rfl))); (try simp only [List.getElem_toArray, List.getElem_cons_zero, List.getElem_cons_succ, Act.put, List.setIfInBounds_toArray, List.set_cons_zero, List.set_cons_succ])); (refine wpAnyH_take (i := 13) (v := ?_) rfl (by kernel_rfl) (by kernel_rfl) (by kernel_rfl) (fun _ _ _ h => h) (Or.inl ⟨by kernel_rfl, ?_⟩) (by assumption) ?_; rotate_left; (focus ((try simp only [List.getElem_toArray, List.getElem_cons_zero, List.getElem_cons_succ]); intro w hSw; (try dsimp only at hSw); go_simp; all_goals (with_reducible rfl))); (try simp only [List.getElem_toArray, List.getElem_cons_zero, List.getElem_cons_succ, Act.put, List.setIfInBounds_toArray, List.set_cons_zero, List.set_cons_succ])); (refine wpAnyH_take (i := 14) (v := ?_) rfl (by kernel_rfl) (by kernel_rfl) (by kernel_rfl) (fun _ _ _ h => h) (Or.inl ⟨by kernel_rfl, ?_⟩) (by assumption) ?_; rotate_left; (focus ((try simp only [List.getElem_toArray, List.getElem_cons_zero, List.getElem_cons_succ]); intro w hSw; (try dsimp only at hSw); go_simp; all_goals (with_reducible rfl))); (try simp only [List.getElem_toArray, List.getElem_cons_zero, List.getElem_cons_succ, Act.put, List.setIfInBounds_toArray, List.set_cons_zero, List.set_cons_succ])); (refine wpAnyH_take (i := 15) (v := ?_) rfl (by kernel_rfl) (by kernel_rfl) (by kernel_rfl) (fun _ _ _ h => h) (Or.inl ⟨by kernel_rfl, ?_⟩) (by assumption) ?_; rotate_left; (focus ((try simp only [List.getElem_toArray, List.getElem_cons_zero, List.getElem_cons_succ]); intro w hSw; (try dsimp only at hSw); go_simp; all_goals (with_reducible rfl))); (try simp only [List.getElem_toArray, List.getElem_cons_zero, List.getElem_cons_succ, Act.put, List.setIfInBounds_toArray, List.set_cons_zero, List.set_cons_succ])); (refine wpAnyH_take (i := 16) (v := ?_) rfl (by kernel_rfl) (by kernel_rfl) (by kernel_rfl) (fun _ _ _ h => h) (Or.inl ⟨by kernel_rfl, ?_⟩) (by assumption) ?_; rotate_left; (focus ((try simp only [List.getElem_toArray, List.getElem_cons_zero, List.getElem_cons_succ]); intro w hSw; (try dsimp only at hSw); go_simp; all_goals (with_reducible rfl))); (try simp only [List.getElem_toArray, List.getElem_cons_zero, List.getElem_cons_succ, Act.put, List.setIfInBounds_toArray, List.set_cons_zero, List.set_cons_succ])); (refine wpAnyH_take (i := 17) (v := ?_) rfl (by kernel_rfl) (by kernel_rfl) (by kernel_rfl) (fun _ _ _ h => h) (Or.inl ⟨by kernel_rfl, ?_⟩) (by assumption) ?_; rotate_left; (focus ((try simp only [List.getElem_toArray, List.getElem_cons_zero, List.getElem_cons_succ]); intro w hSw; (try dsimp only at hSw); go_simp; all_goals (with_reducible rfl))); (try simp only [List.getElem_toArray, List.getElem_cons_zero, List.getElem_cons_succ, Act.put, List.setIfInBounds_toArray, List.set_cons_zero, List.set_cons_succ])))
          (refine wpAnyH_ready (rs := [11]) (by kernel_rfl) (by simp) ?_; refine AllReadyH.cons rfl (fun K hK => ?_) AllReadyH.nil; (try simp only [List.getElem_toArray, List.getElem_cons_zero, List.getElem_cons_succ]))
          go_simp
          have g1 := hHeld.1; have g2 := hHeld.2.1; have g3 := hHeld.2.2
          (refine hK.out _ _ (by (try dsimp only); exact ⟨((World.cell?_alloc_lt _ _ _ (World.block_lt_of_cell? _ _ g1)).trans g1), ((World.cell?_alloc_lt _ _ _ (World.block_lt_of_cell? _ _ g2)).trans g2), g3.alloc g3.size _⟩) (fun hHeld => ?_); clear hK K; (try simp only [List.getElem_toArray, List.getElem_cons_zero, List.getElem_cons_succ, Act.put, List.setIfInBounds_toArray, List.set_cons_zero, List.set_cons_succ]))
          clear g1 g2 g3
          (refine wpAnyH_ready (rs := [12]) (by kernel_rfl) (by simp) ?_; refine AllReadyH.cons rfl (fun K hK => ?_) AllReadyH.nil; (try simp only [List.getElem_toArray, List.getElem_cons_zero, List.getElem_cons_succ]))
          rw [if_pos (by kernel_rfl)]
          refine wp_app eB _ _ rfl W.heap.size wr.drew B i cb _ rfl (show wr.drew.ownsRow _ _ _ _ _ _ from oa) #[.bool false] rfl rfl (one_bool _) (by omega) (by unfold maxLen; omega) hbel.size ?_
          rintro g cap w3 hL3
          have hL3b := Lies.other hL3 (show wr.drew.ownsRow _ _ _ _ _ _ from ob) hap
          obtain ⟨oa3, bl3, _, _, _⟩ := hL3
          obtain ⟨ob3, ap3⟩ := hL3b
          have b3 : Below W.heap.size W w3 := hbel.drew.trans bl3
          (refine hK.out _ _ (by (try dsimp only); exact ⟨(bl3.cell hb1).trans x1, (bl3.cell hb2).trans x2, b3⟩) (fun hHeld => ?_); clear hK K; (try simp only [List.getElem_toArray, List.getElem_cons_zero, List.getElem_cons_succ, Act.put, List.setIfInBounds_toArray, List.set_cons_zero, List.set_cons_succ]))
          ((refine wpAnyH_take (i := 18) (v := ?_) rfl (by kernel_rfl) (by kernel_rfl) (by kernel_rfl) (fun _ _ _ h => h) (Or.inl ⟨by kernel_rfl, ?_⟩) (by assumption) ?_; rotate_left; (focus ((try simp only [List.getElem_toArray, List.getElem_cons_zero, List.getElem_cons_succ]); intro w hSw; (try dsimp only at hSw); go_simp; all_goals (with_reducible rfl))); (try simp only [List.getElem_toArray, List.getElem_cons_zero, List.getElem_cons_succ, Act.put, List.setIfInBounds_toArray, List.set_cons_zero, List.set_cons_succ])))
          ((refine wpAnyH_take (i := 19) (v := ?_) rfl (by kernel_rfl) (by kernel_rfl) (by kernel_rfl) (fun _ _ _ h => h) (Or.inl ⟨by kernel_rfl, ?_⟩) (by assumption) ?_; rotate_left; (focus ((try simp only [List.getElem_toArray, List.getElem_cons_zero, List.getElem_cons_succ]); intro w hSw; (try dsimp only at hSw); go_simp; all_goals (with_reducible rfl))); (try simp only [List.getElem_toArray, List.getElem_cons_zero, List.getElem_cons_succ, Act.put, List.setIfInBounds_toArray, List.set_cons_zero, List.set_cons_succ])); (refine wpAnyH_take (i := 20) (v := ?_) rfl (by kernel_rfl) (by kernel_rfl) (by kernel_rfl) (fun _ _ _ h => h) (Or.inl ⟨by kernel_rfl, ?_⟩) (by assumption) ?_; rotate_left; (focus ((try simp only [List.getElem_toArray, List.getElem_cons_zero, List.getElem_cons_succ]); intro w hSw; (try dsimp only at hSw); go_simp; all_goals (with_reducible rfl))); (try simp only [List.getElem_toArray, List.getElem_cons_zero, List.getElem_cons_succ, Act.put, List.setIfInBounds_toArray, List.set_cons_zero, List.set_cons_succ])); (refine wpAnyH_take (i := 21) (v := ?_) rfl (by kernel_rfl) (by kernel_rfl) (by kernel_rfl) (fun _ _ _ h => h) (Or.inl ⟨by kernel_rfl, ?_⟩) (by assumption) ?_; rotate_left; (focus ((try simp only [List.getElem_toArray, List.getElem_cons_zero, List.getElem_cons_succ]); intro w hSw; (try dsimp only at hSw); go_simp; all_goals (with_reducible rfl))); (try simp only [List.getElem_toArray, List.getElem_cons_zero, List.getElem_cons_succ, Act.put, List.setIfInBounds_toArray, List.set_cons_zero, List.set_cons_succ])); (refine wpAnyH_take (i := 22) (v := ?_) rfl (by kernel_rfl) (by kernel_rfl) (by kernel_rfl) (fun _ _ _ h => h) (Or.inl ⟨by kernel_rfl, ?_⟩) (by assumption) ?_; rotate_left; (focus ((try simp only [List.getElem_toArray, List.getElem_cons_zero, List.getElem_cons_succ]); intro w hSw; (try dsimp only at hSw); go_simp; all_goals (with_reducible rfl))); (try simp only [List.getElem_toArray, List.getElem_cons_zero, List.getElem_cons_succ, Act.put, List.setIfInBounds_toArray, List.set_cons_zero, List.set_cons_succ])))
          ((refine wpAnyH_take (i := 23) (v := ?_) rfl (by kernel_rfl) (by kernel_rfl) (by kernel_rfl) (fun _ _ _ h => h) (Or.inl ⟨by kernel_rfl, ?_⟩) (by assumption) ?_; rotate_left; (focus ((try simp only [List.getElem_toArray, List.getElem_cons_zero, List.getElem_cons_succ]); intro w hSw; (try dsimp only at hSw); go_simp; all_goals (with_reducible rfl))); (try simp only [List.getElem_toArray, List.getElem_cons_zero, List.getElem_cons_succ, Act.put, List.setIfInBounds_toArray, List.set_cons_zero, List.set_cons_succ])))
          (refine wpAnyH_ready (rs := [24]) (by kernel_rfl) (by simp) ?_; refine AllReadyH.cons rfl (fun K hK => ?_) AllReadyH.nil; (try simp only [List.getElem_toArray, List.getElem_cons_zero, List.getElem_cons_succ]))
          go_simp
          have g1 := hHeld.1; have g2 := hHeld.2.1; have g3 := hHeld.2.2
          (refine hK.out _ _ (by (try dsimp only); exact ⟨((World.cell?_alloc_lt _ _ _ (World.block_lt_of_cell? _ _ g1)).trans g1), ((World.cell?_alloc_lt _ _ _ (World.block_lt_of_cell? _ _ g2)).trans g2), g3.alloc g3.size _⟩) (fun hHeld => ?_); clear hK K; (try simp only [List.getElem_toArray, List.getElem_cons_zero, List.getElem_cons_succ, Act.put, List.setIfInBounds_toArray, List.set_cons_zero, List.set_cons_succ]))
          clear g1 g2 g3
          (refine wpAnyH_ready (rs := [25]) (by kernel_rfl) (by simp) ?_; refine AllReadyH.cons rfl (fun K hK => ?_) AllReadyH.nil; (try simp only [List.getElem_toArray, List.getElem_cons_zero, List.getElem_cons_succ]))
          rw [if_pos (by kernel_rfl)]
          refine wp_app eB _ _ rfl W.heap.size w3 D i cd _ rfl ob3 #[.bool y] rfl rfl (one_bool _) (by omega) (by unfold maxLen; omega) b3.size ?_
          rintro g2 cap2 w4 hL4
          have hL4b := Lies.other hL4 oa3 ap3.symm
          obtain ⟨ob4, bl4, _, _, _⟩ := hL4
          obtain ⟨oa4, ap4⟩ := hL4b
          have b4 : Below W.heap.size W w4 := b3.trans bl4
          (refine hK.out _ _ (by (try dsimp only); exact ⟨(bl4.cell hb1).trans ((bl3.cell hb1).trans x1), (bl4.cell hb2).trans ((bl3.cell hb2).trans x2), b4⟩) (fun hHeld => ?_); clear hK K; (try simp only [List.getElem_toArray, List.getElem_cons_zero, List.getElem_cons_succ, Act.put, List.setIfInBounds_toArray, List.set_cons_zero, List.set_cons_succ]))
          ((refine wpAnyH_take (i := 26) (v := ?_) rfl (by kernel_rfl) (by kernel_rfl) (by kernel_rfl) (fun _ _ _ h => h) (Or.inl ⟨by kernel_rfl, ?_⟩) (by assumption) ?_; rotate_left; (focus ((try simp only [List.getElem_toArray, List.getElem_cons_zero, List.getElem_cons_succ]); intro w hSw; (try dsimp only at hSw); go_simp; all_goals (with_reducible rfl))); (try simp only [List.getElem_toArray, List.getElem_cons_zero, List.getElem_cons_succ, Act.put, List.setIfInBounds_toArray, List.set_cons_zero, List.set_cons_succ])); (refine wpAnyH_take (i := 27) (v := ?_) rfl (by kernel_rfl) (by kernel_rfl) (by kernel_rfl) (fun _ _ _ h => h) (Or.inl ⟨by kernel_rfl, ?_⟩) (by assumption) ?_; rotate_left; (focus ((try simp only [List.getElem_toArray, List.getElem_cons_zero, List.getElem_cons_succ]); intro w hSw; (try dsimp only at hSw); go_simp; all_goals (with_reducible rfl))); (try simp only [List.getElem_toArray, List.getElem_cons_zero, List.getElem_cons_succ, Act.put, List.setIfInBounds_toArray, List.set_cons_zero, List.set_cons_succ])))
          (refine wpAnyH_done (by kernel_rfl) ?_ _)
          rw [cB_snoc2, show (false : Bool) = and false y by cases y <;> rfl, ← T1.out] at oa4
          rw [cB_snoc2, show (y : Bool) = or false y by cases y <;> rfl, ← T2.out] at ob4
          go_wp2
          go_roundw
          case rel => exact ⟨i + 1, _, _, _, _, by omega, by go_num, rfl, rfl, oa4, ob4, ap4.symm, b4⟩
          case measure => simp [intOf]; omega
        · skip
          refine wp_region_held_drew (S := (fun w' => w'.cell? ⟨b, off + i, none⟩ = some (.bool true) ∧ w'.cell? ⟨b2, off2 + i, none⟩ = some (.bool y) ∧ Below W.heap.size W w')) (by kernel_rfl) ⟨x1, x2, hbel.drew⟩ (fun hHeld => ?_)
          ((refine wpAnyH_take (i := 0) (v := ?_) rfl (by kernel_rfl) (by kernel_rfl) (by kernel_rfl) (fun _ _ _ h => h) (Or.inl ⟨by kernel_rfl, ?_⟩) (by assumption) ?_; rotate_left; (focus ((try simp only [List.getElem_toArray, List.getElem_cons_zero, List.getElem_cons_succ]); intro w hSw; (try dsimp only at hSw); go_simp; all_goals (with_reducible rfl))); (try simp only [List.getElem_toArray, List.getElem_cons_zero, List.getElem_cons_succ, Act.put, List.setIfInBounds_toArray, List.set_cons_zero, List.set_cons_succ])); (refine wpAnyH_take (i := 1) (v := ?_) rfl (by kernel_rfl) (by kernel_rfl) (by kernel_rfl) (fun _ _ _ h => h) (Or.inl ⟨by kernel_rfl, ?_⟩) (by assumption) ?_; rotate_left; (focus ((try simp only [List.getElem_toArray, List.getElem_cons_zero, List.getElem_cons_succ]); intro w hSw; (try dsimp only at hSw); go_simp; all_goals (with_reducible rfl))); (try simp only [List.getElem_toArray, List.getElem_cons_zero, List.getElem_cons_succ, Act.put, List.setIfInBounds_toArray, List.set_cons_zero, List.set_cons_succ])); (refine wpAnyH_take (i := 2) (v := ?_) rfl (by kernel_rfl) (by kernel_rfl) (by kernel_rfl) (fun _ _ _ h => h) (Or.inl ⟨by kernel_rfl, ?_⟩) (by assumption) ?_; rotate_left; (focus ((try simp only [List.getElem_toArray, List.getElem_cons_zero, List.getElem_cons_succ]); intro w hSw; (try dsimp only at hSw); go_simp; all_goals (with_reducible rfl))); (try simp only [List.getElem_toArray, List.getElem_cons_zero, List.getElem_cons_succ, Act.put, List.setIfInBounds_toArray, List.set_cons_zero, List.set_cons_succ])); (refine wpAnyH_take (i := 3) (v := ?_) rfl (by kernel_rfl) (by kernel_rfl) (by kernel_rfl) (fun _ _ _ h => h) (Or.inl ⟨by kernel_rfl, ?_⟩) (by assumption) ?_; rotate_left; (focus ((try simp only [List.getElem_toArray, List.getElem_cons_zero, List.getElem_cons_succ]); intro w hSw; (try dsimp only at hSw); go_simp; all_goals (with_reducible rfl))); (try simp only [List.getElem_toArray, List.getElem_cons_zero, List.getElem_cons_succ, Act.put, List.setIfInBounds_toArray, List.set_cons_zero, List.set_cons_succ])); (refine wpAnyH_take (i := 4) (v := ?_) rfl (by kernel_rfl) (by kernel_rfl) (by kernel_rfl) (fun _ _ _ h => h) (Or.inl ⟨by kernel_rfl, ?_⟩) (by assumption) ?_; rotate_left; (focus ((try simp only [List.getElem_toArray, List.getElem_cons_zero, List.getElem_cons_succ]); intro w hSw; (try dsimp only at hSw); go_simp; all_goals (with_reducible rfl))); (try simp only [List.getElem_toArray, List.getElem_cons_zero, List.getElem_cons_succ, Act.put, List.setIfInBounds_toArray, List.set_cons_zero, List.set_cons_succ])); (refine wpAnyH_take (i := 5) (v := ?_) rfl (by kernel_rfl) (by kernel_rfl) (by kernel_rfl) (fun _ _ _ h => h) (Or.inl ⟨by kernel_rfl, ?_⟩) (by assumption) ?_; rotate_left; (focus ((try simp only [List.getElem_toArray, List.getElem_cons_zero, List.getElem_cons_succ]); intro w hSw; (try dsimp only at hSw); go_simp; all_goals (with_reducible rfl))); (try simp only [List.getElem_toArray, List.getElem_cons_zero, List.getElem_cons_succ, Act.put, List.setIfInBounds_toArray, List.set_cons_zero, List.set_cons_succ])))
          ((refine wpAnyH_take (i := 6) (v := ?_) rfl (by kernel_rfl) (by kernel_rfl) (by kernel_rfl) (fun _ _ _ h => h) (Or.inl ⟨by kernel_rfl, ?_⟩) (by assumption) ?_; rotate_left; (focus ((try simp only [List.getElem_toArray, List.getElem_cons_zero, List.getElem_cons_succ]); intro w hSw; (try dsimp only at hSw); go_simp; all_goals (with_reducible rfl))); (try simp only [List.getElem_toArray, List.getElem_cons_zero, List.getElem_cons_succ, Act.put, List.setIfInBounds_toArray, List.set_cons_zero, List.set_cons_succ])); (refine wpAnyH_take (i := 7) (v := ?_) rfl (by kernel_rfl) (by kernel_rfl) (by kernel_rfl) (fun _ _ _ h => h) (Or.inl ⟨by kernel_rfl, ?_⟩) (by assumption) ?_; rotate_left; (focus ((try simp only [List.getElem_toArray, List.getElem_cons_zero, List.getElem_cons_succ]); intro w hSw; (try dsimp only at hSw); go_simp; all_goals (with_reducible rfl))); (try simp only [List.getElem_toArray, List.getElem_cons_zero, List.getElem_cons_succ, Act.put, List.setIfInBounds_toArray, List.set_cons_zero, List.set_cons_succ])); (refine wpAnyH_take (i := 8) (v := ?_) rfl (by kernel_rfl) (by kernel_rfl) (by kernel_rfl) (fun _ _ _ h => h) (Or.inl ⟨by kernel_rfl, ?_⟩) (by assumption) ?_; rotate_left; (focus ((try simp only [List.getElem_toArray, List.getElem_cons_zero, List.getElem_cons_succ]); intro w hSw; (try dsimp only at hSw); go_simp; all_goals (with_reducible rfl))); (try simp only [List.getElem_toArray, List.getElem_cons_zero, List.getElem_cons_succ, Act.put, List.setIfInBounds_toArray, List.set_cons_zero, List.set_cons_succ])); (refine wpAnyH_take (i := 9) (v := ?_) rfl (by kernel_rfl) (by kernel_rfl) (by kernel_rfl) (fun _ _ _ h => h) (Or.inl ⟨by kernel_rfl, ?_⟩) (by assumption) ?_; rotate_left; (focus ((try simp only [List.getElem_toArray, List.getElem_cons_zero, List.getElem_cons_succ]); intro w hSw; (try dsimp only at hSw); go_simp; all_goals (with_reducible rfl))); (try simp only [List.getElem_toArray, List.getElem_cons_zero, List.getElem_cons_succ, Act.put, List.setIfInBounds_toArray, List.set_cons_zero, List.set_cons_succ])))
          ((refine wpAnyH_take (i := 10) (v := ?_) rfl (by kernel_rfl) (by kernel_rfl) (by kernel_rfl) (fun _ _ _ h => h) (Or.inl ⟨by kernel_rfl, ?_⟩) (by assumption) ?_; rotate_left; (focus ((try simp only [List.getElem_toArray, List.getElem_cons_zero, List.getElem_cons_succ]); intro w hSw; (try dsimp only at hSw); go_simp; all_goals (with_reducible rfl))); (try simp only [List.getElem_toArray, List.getElem_cons_zero, List.getElem_cons_succ, Act.put, List.setIfInBounds_toArray, List.set_cons_zero, List.set_cons_succ])); (refine wpAnyH_take (i := 13) (v := ?_) rfl (by kernel_rfl) (by kernel_rfl) (by kernel_rfl) (fun _ _ _ h => h) (Or.inl ⟨by kernel_rfl, ?_⟩) (by assumption) ?_; rotate_left; (focus ((try simp only [List.getElem_toArray, List.getElem_cons_zero, List.getElem_cons_succ]); intro w hSw; (try dsimp only at hSw); go_simp; all_goals (with_reducible rfl))); (try simp only [List.getElem_toArray, List.getElem_cons_zero, List.getElem_cons_succ, Act.put, List.setIfInBounds_toArray, List.set_cons_zero, List.set_cons_succ])); (refine wpAnyH_take (i := 14) (v := ?_) rfl (by kernel_rfl) (by kernel_rfl) (by kernel_rfl) (fun _ _ _ h => h) (Or.inl ⟨by kernel_rfl, ?_⟩) (by assumption) ?_; rotate_left; (focus ((try simp only [List.getElem_toArray, List.getElem_cons_zero, List.getElem_cons_succ]); intro w hSw; (try dsimp only at hSw); go_simp; all_goals (with_reducible rfl))); (try simp only [List.getElem_toArray, List.getElem_cons_zero, List.getElem_cons_succ, Act.put, List.setIfInBounds_toArray, List.set_cons_zero, List.set_cons_succ])); (refine wpAnyH_take (i := 15) (v := ?_) rfl (by kernel_rfl) (by kernel_rfl) (by kernel_rfl) (fun _ _ _ h => h) (Or.inl ⟨by kernel_rfl, ?_⟩) (by assumption) ?_; rotate_left; (focus ((try simp only [List.getElem_toArray, List.getElem_cons_zero, List.getElem_cons_succ]); intro w hSw; (try dsimp only at hSw); go_simp; all_goals (with_reducible rfl))); (try simp only [List.getElem_toArray, List.getElem_cons_zero, List.getElem_cons_succ, Act.put, List.setIfInBounds_toArray, List.set_cons_zero, List.set_cons_succ])); (refine wpAnyH_take (i := 16) (v := ?_) rfl (by kernel_rfl) (by kernel_rfl) (by kernel_rfl) (fun _ _ _ h => h) (Or.inl ⟨by kernel_rfl, ?_⟩) (by assumption) ?_; rotate_left; (focus ((try simp only [List.getElem_toArray, List.getElem_cons_zero, List.getElem_cons_succ]); intro w hSw; (try dsimp only at hSw); go_simp; all_goals (with_reducible rfl))); (try simp only [List.getElem_toArray, List.getElem_cons_zero, List.getElem_cons_succ, Act.put, List.setIfInBounds_toArray, List.set_cons_zero, List.set_cons_succ])); (refine wpAnyH_take (i := 17) (v := ?_) rfl (by kernel_rfl) (by kernel_rfl) (by kernel_rfl) (fun _ _ _ h => h) (Or.inl ⟨by kernel_rfl, ?_⟩) (by assumption) ?_; rotate_left; (focus ((try simp only [List.getElem_toArray, List.getElem_cons_zero, List.getElem_cons_succ]); intro w hSw; (try dsimp only at hSw); go_simp; all_goals (with_reducible rfl))); (try simp only [List.getElem_toArray, List.getElem_cons_zero, List.getElem_cons_succ, Act.put, List.setIfInBounds_toArray, List.set_cons_zero, List.set_cons_succ])))
          (refine wpAnyH_ready (rs := [11]) (by kernel_rfl) (by simp) ?_; refine AllReadyH.cons rfl (fun K hK => ?_) AllReadyH.nil; (try simp only [List.getElem_toArray, List.getElem_cons_zero, List.getElem_cons_succ]))
          go_simp
          have g1 := hHeld.1; have g2 := hHeld.2.1; have g3 := hHeld.2.2
          (refine hK.out _ _ (by (try dsimp only); exact ⟨((World.cell?_alloc_lt _ _ _ (World.block_lt_of_cell? _ _ g1)).trans g1), ((World.cell?_alloc_lt _ _ _ (World.block_lt_of_cell? _ _ g2)).trans g2), g3.alloc g3.size _⟩) (fun hHeld => ?_); clear hK K; (try simp only [List.getElem_toArray, List.getElem_cons_zero, List.getElem_cons_succ, Act.put, List.setIfInBounds_toArray, List.set_cons_zero, List.set_cons_succ]))
          clear g1 g2 g3
          (refine wpAnyH_ready (rs := [12]) (by kernel_rfl) (by simp) ?_; refine AllReadyH.cons rfl (fun K hK => ?_) AllReadyH.nil; (try simp only [List.getElem_toArray, List.getElem_cons_zero, List.getElem_cons_succ]))
          rw [if_pos (by kernel_rfl)]
          refine wp_app eB _ _ rfl W.heap.size wr.drew B i cb _ rfl (show wr.drew.ownsRow _ _ _ _ _ _ from oa) #[.bool y] rfl rfl (one_bool _) (by omega) (by unfold maxLen; omega) hbel.size ?_
          rintro g cap w3 hL3
          have hL3b := Lies.other hL3 (show wr.drew.ownsRow _ _ _ _ _ _ from ob) hap
          obtain ⟨oa3, bl3, _, _, _⟩ := hL3
          obtain ⟨ob3, ap3⟩ := hL3b
          have b3 : Below W.heap.size W w3 := hbel.drew.trans bl3
          (refine hK.out _ _ (by (try dsimp only); exact ⟨(bl3.cell hb1).trans x1, (bl3.cell hb2).trans x2, b3⟩) (fun hHeld => ?_); clear hK K; (try simp only [List.getElem_toArray, List.getElem_cons_zero, List.getElem_cons_succ, Act.put, List.setIfInBounds_toArray, List.set_cons_zero, List.set_cons_succ]))
          ((refine wpAnyH_take (i := 18) (v := ?_) rfl (by kernel_rfl) (by kernel_rfl) (by kernel_rfl) (fun _ _ _ h => h) (Or.inl ⟨by kernel_rfl, ?_⟩) (by assumption) ?_; rotate_left; (focus ((try simp only [List.getElem_toArray, List.getElem_cons_zero, List.getElem_cons_succ]); intro w hSw; (try dsimp only at hSw); go_simp; all_goals (with_reducible rfl))); (try simp only [List.getElem_toArray, List.getElem_cons_zero, List.getElem_cons_succ, Act.put, List.setIfInBounds_toArray, List.set_cons_zero, List.set_cons_succ])))
          ((refine wpAnyH_take (i := 19) (v := undef) rfl (by kernel_rfl) (by kernel_rfl) (by kernel_rfl) (fun _ _ _ h => h) (Or.inr ⟨by kernel_rfl, rfl⟩) (by assumption) ?_; (try simp only [List.getElem_toArray, List.getElem_cons_zero, List.getElem_cons_succ, Act.put, List.setIfInBounds_toArray, List.set_cons_zero, List.set_cons_succ])); (refine wpAnyH_take (i := 20) (v := undef) rfl (by kernel_rfl) (by kernel_rfl) (by kernel_rfl) (fun _ _ _ h => h) (Or.inr ⟨by kernel_rfl, rfl⟩) (by assumption) ?_; (try simp only [List.getElem_toArray, List.getElem_cons_zero, List.getElem_cons_succ, Act.put, List.setIfInBounds_toArray, List.set_cons_zero, List.set_cons_succ])); (refine wpAnyH_take (i := 21) (v := undef) rfl (by kernel_rfl) (by kernel_rfl) (by kernel_rfl) (fun _ _ _ h => h) (Or.inr ⟨by kernel_rfl, rfl⟩) (by assumption) ?_; (try simp only [List.getElem_toArray, List.getElem_cons_zero, List.getElem_cons_succ, Act.put, List.setIfInBounds_toArray, List.set_cons_zero, List.set_cons_succ])); (refine wpAnyH_take (i := 22) (v := undef) rfl (by kernel_rfl) (by kernel_rfl) (by kernel_rfl) (fun _ _ _ h => h) (Or.inr ⟨by kernel_rfl, rfl⟩) (by assumption) ?_; (try simp only [List.getElem_toArray, List.getElem_cons_zero, List.getElem_cons_succ, Act.put, List.setIfInBounds_toArray, List.set_cons_zero, List.set_cons_succ])))
          ((refine wpAnyH_take (i := 23) (v := ?_) rfl (by kernel_rfl) (by kernel_rfl) (by kernel_rfl) (fun _ _ _ h => h) (Or.inl ⟨by kernel_rfl, ?_⟩) (by assumption) ?_; rotate_left; (focus ((try simp only [List.getElem_toArray, List.getElem_cons_zero, List.getElem_cons_succ]); intro w hSw; (try dsimp only at hSw); go_simp; all_goals (with_reducible rfl))); (try simp only [List.getElem_toArray, List.getElem_cons_zero, List.getElem_cons_succ, Act.put, List.setIfInBounds_toArray, List.set_cons_zero, List.set_cons_succ])))
          (refine wpAnyH_ready (rs := [24]) (by kernel_rfl) (by simp) ?_; refine AllReadyH.cons rfl (fun K hK => ?_) AllReadyH.nil; (try simp only [List.getElem_toArray, List.getElem_cons_zero, List.getElem_cons_succ]))
          go_simp
          have g1 := hHeld.1; have g2 := hHeld.2.1; have g3 := hHeld.2.2
          (refine hK.out _ _ (by (try dsimp only); exact ⟨((World.cell?_alloc_lt _ _ _ (World.block_lt_of_cell? _ _ g1)).trans g1), ((World.cell?_alloc_lt _ _ _ (World.block_lt_of_cell? _ _ g2)).trans g2), g3.alloc g3.size _⟩) (fun hHeld => ?_); clear hK K; (try simp only [List.getElem_toArray, List.getElem_cons_zero, List.getElem_cons_succ, Act.put, List.setIfInBounds_toArray, List.set_cons_zero, List.set_cons_succ]))
          clear g1 g2 g3
          (refine wpAnyH_ready (rs := [25]) (by kernel_rfl) (by simp) ?_; refine AllReadyH.cons rfl (fun K hK => ?_) AllReadyH.nil; (try simp only [List.getElem_toArray, List.getElem_cons_zero, List.getElem_cons_succ]))
          rw [if_pos (by kernel_rfl)]
          refine wp_app eB _ _ rfl W.heap.size w3 D i cd _ rfl ob3 #[.bool true] rfl rfl (one_bool _) (by omega) (by unfold maxLen; omega) b3.size ?_
          rintro g2 cap2 w4 hL4
          have hL4b := Lies.other hL4 oa3 ap3.symm
          obtain ⟨ob4, bl4, _, _, _⟩ := hL4
          obtain ⟨oa4, ap4⟩ := hL4b
          have b4 : Below W.heap.size W w4 := b3.trans bl4
          (refine hK.out _ _ (by (try dsimp only); exact ⟨(bl4.cell hb1).trans ((bl3.cell hb1).trans x1), (bl4.cell hb2).trans ((bl3.cell hb2).trans x2), b4⟩) (fun hHeld => ?_); clear hK K; (try simp only [List.getElem_toArray, List.getElem_cons_zero, List.getElem_cons_succ, Act.put, List.setIfInBounds_toArray, List.set_cons_zero, List.set_cons_succ]))
          ((refine wpAnyH_take (i := 26) (v := ?_) rfl (by kernel_rfl) (by kernel_rfl) (by kernel_rfl) (fun _ _ _ h => h) (Or.inl ⟨by kernel_rfl, ?_⟩) (by assumption) ?_; rotate_left; (focus ((try simp only [List.getElem_toArray, List.getElem_cons_zero, List.getElem_cons_succ]); intro w hSw; (try dsimp only at hSw); go_simp; all_goals (with_reducible rfl))); (try simp only [List.getElem_toArray, List.getElem_cons_zero, List.getElem_cons_succ, Act.put, List.setIfInBounds_toArray, List.set_cons_zero, List.set_cons_succ])); (refine wpAnyH_take (i := 27) (v := ?_) rfl (by kernel_rfl) (by kernel_rfl) (by kernel_rfl) (fun _ _ _ h => h) (Or.inl ⟨by kernel_rfl, ?_⟩) (by assumption) ?_; rotate_left; (focus ((try simp only [List.getElem_toArray, List.getElem_cons_zero, List.getElem_cons_succ]); intro w hSw; (try dsimp only at hSw); go_simp; all_goals (with_reducible rfl))); (try simp only [List.getElem_toArray, List.getElem_cons_zero, List.getElem_cons_succ, Act.put, List.setIfInBounds_toArray, List.set_cons_zero, List.set_cons_succ])))
          (refine wpAnyH_done (by kernel_rfl) ?_ _)
          rw [cB_snoc2, show (y : Bool) = and true y by cases y <;> rfl, ← T1.out] at oa4
          rw [cB_snoc2, show (true : Bool) = or true y by cases y <;> rfl, ← T2.out] at ob4
          go_wp2
          go_roundw
          case rel => exact ⟨i + 1, _, _, _, _, by omega, by go_num, rfl, rfl, oa4, ob4, ap4.symm, b4⟩
          case measure => simp [intOf]; omega
      · obtain rfl : n0 = i := by omega
        have rA := Lib.hid (Rd.of_own oa)
        have rB := Lib.hid (Rd.of_own ob)
        clear oa ob hap
        go_wp2_with fail
        refine (Search_any la A0 n0 _ n0 wr (ra1.out.on hbel) (by omega)).mono ?_
        rintro e w1 ⟨x, hx, rfl, hb1⟩
        have hsx := Lib.hid (hx.step (HBA.out.1 (by first | rfl | trivial)).mono)
        have hxn := hx.1
        clear hx
        go_wp2_with fail
        refine (Search_any lb A1 n0 _ n0 w1 (rb1.out.on (below_step hbel hb1)) (by omega)).mono ?_
        rintro e w2 ⟨y, hy, rfl, hb2⟩
        have hsy := Lib.hid (hy.step (HBB.out.1 (by first | rfl | trivial)).mono)
        have hyn := hy.1
        clear hy
        have bl2 := below_step (below_step hbel hb1) hb2
        have HS1 := Lib.hid (both_step HLa.out HLb.out hsx.out hsy.out)
        have HS2 := Lib.hid (one_step HLa.out HLb.out hsx.out hsy.out)
        have ex : ((x : Int) == (x : Int)) = true := by simp
        have ey : ((y : Int) == (y : Int)) = true := by simp
        go_wp2_with fail
        refine (First_any la A0 n0 _ n0 w2 (ra1.out.on bl2) (by omega) (by omega)).mono ?_
        rintro e w3 ⟨u, hu, rfl, rfl⟩
        obtain rfl := hsx.out.first hu
        clear hu
        go_wp2_with fail
        refine (First_any lb A1 n0 _ n0 w2 (rb1.out.on bl2) (by omega) (by omega)).mono ?_
        rintro e w3 ⟨v, hv, rfl, rfl⟩
        obtain rfl := hsy.out.first hv
        clear hv
        rcases Nat.lt_or_ge v u with hvu | hvu
        all_goals
          first
            | (have hM : Hid (max u v = u ∧ min u v = v) := ⟨by omega, by omega⟩)
            | (have hM : Hid (max u v = v ∧ min u v = u) := ⟨by omega, by omega⟩)
          rw [hM.out.1] at HS1
          rw [hM.out.2] at HS2
          clear hM
          go_wp2_with fail
          refine (Search_any _ B n0 cb n0 w2 (rA.out.on (below_step hb1 hb2)) (by omega)).mono ?_
          rintro e w3 ⟨r, hr, rfl, hb3⟩
          obtain rfl := HS1.out.cut hr
          clear hr HS1
          go_wp2_with fail
          all_goals
            refine (Search_any _ D n0 cd n0 w3 (rB.out.on (below_step (below_step hb1 hb2) hb3)) (by omega)).mono ?_
            rintro e w4 ⟨r, hr, rfl, hb4⟩
            obtain rfl := HS2.out.cut hr
            clear hr HS2
            go_wp2
            go_ret
            exact ⟨by simp, below_step hbq (below_step (below_step bl2 hb3) hb4)⟩
end Go.Proofs.Ytdjlcpfjemmlgaa

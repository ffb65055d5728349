/- FnBag returns true: for every script and order. -/
import Derived.Test.YtbfeokhkmlcgaaaImplStable
import Derived.Test.YtbfeokhkmlcgaaaInside
import Derived.Test.YtbfeokhkmlcgaaaLPast
import Derived.Test.YtbfeokhkmlcgaaaLFind
import Derived.Test.YtbfeokhkmlcgaaaLRank
import Derived.Test.YtbfeokhkmlcgaaaCountsPlain
import Derived.Test.YtbfeokhkmlcgaaaInsPlain
import Derived.Test.YtbfeokhkmlcgaaaBagPlain
import Derived.Test.YtbfeokhkmlcgaaaPut
import Derived.Test.YtbfeokhkmlcgaaaSame
import Derived.Test.YtbfeokhkmlcgaaaTwo
import Derived.Test.YtbfeokhkmlcgaaaOpenMore
import Derived.Deep.RegionHeld3
import Derived.IntWalk
namespace Go.Proofs.Ytbfeokhkmlcgaaa
open Go.RowKit
attribute [local go_sem ↓] Go.wp_at_zero Go.wp_at_succ
theorem apt_fresh {W w' : World} {base e size e2 size2 n m : Nat} {u v : Value} {xs ys : List Value} (hu : W.ownsRow base e size u n xs) (hv : w'.ownsRow W.heap.size e2 size2 v m ys) : Apt v u := by
  cases h : v.ownBlock with
  | none => exact .inl h
  | some k =>
    refine .inr fun e => ?_
    rw [h] at e
    have h1 := (hv.lt k h).1
    have h2 := (hu.lt k e.symm).2
    omega
/-- The two rows: what is sorted, and what is left, as it came. -/
def Bag (wr : World) (base : Nat) (R : List Int) (u v : Value) (M : List (Int × Int)) : Prop :=
  wr.ownsRow base 28 2 u M.length (cI (stab (rJ R) M)) ∧ wr.ownsRow base 28 2 v M.length (cI M) ∧ Apt v u
theorem Bag.on {W W' : World} {base : Nat} {R : List Int} {u v : Value} {M : List (Int × Int)} (h : Bag W base R u v M) (hb : Below W.heap.size W W') : Bag W' base R u v M := ⟨own_on h.1 hb, own_on h.2.1 hb, h.2.2⟩

theorem rd_dropI2 {w : World} {B n k : Nat} {A A' : Option Addr} {l : List (Int × Int)} (h : Rd w B 2 A n (cI l)) (hk : k ≤ n) (hA : k < n → A' = A.map (·.add (k * 2))) : Rd w B 2 A' (n - k) (cI (l.drop k)) := by rw [← cI_drop]; exact h.drop_ hk hA
theorem rd_takeI2 {w : World} {B n k : Nat} {A : Option Addr} {l : List (Int × Int)} (h : Rd w B 2 A n (cI l)) (hk : k ≤ n) : Rd w B 2 A k (cI (l.take k)) := by rw [← cI_take]; exact h.take_ hk
/-- What 'first' says behind k elements. -/
def FstEq (R : List Int) (M : List (Int × Int)) (c : Int) (k : Nat) (v : Value) : Prop :=
  (v = .int .i64 (-1) ∧ ∀ j, j < k → rk R (it M j).1 ≠ c) ∨ ∃ f : Nat, v = .int .i64 f ∧ f < k ∧ rk R (it M f).1 = c ∧ ∀ j, j < f → rk R (it M j).1 ≠ c
theorem eqs_perm (R : List Int) (l : List (Int × Int)) (k : Int) : eqs R (stab (rJ R) l) k = eqs R l k := (stab_perm (rJ R) l).countP_eq _
theorem less_perm' (R : List Int) (l : List (Int × Int)) (k : Int) : less R (stab (rJ R) l) k = less R l k := (stab_perm (rJ R) l).countP_eq _
theorem eqs_none {R : List Int} {l : List (Int × Int)} {k : Int} (h : ∀ j, j < l.length → rk R (it l j).1 ≠ rk R k) : eqs R l k = 0 := by
  unfold eqs
  rw [List.countP_eq_zero]
  intro y hy
  obtain ⟨j, hj, rfl⟩ := List.mem_iff_getElem.1 hy
  have := h j hj
  rw [it_lt hj] at this
  simpa using this
theorem eqs_some {R : List Int} {l : List (Int × Int)} {k : Int} {f : Nat} (hf : f < l.length) (h : rk R (it l f).1 = rk R k) : 0 < eqs R l k := by
  unfold eqs
  rw [List.countP_pos_iff]
  refine ⟨l[f], List.getElem_mem hf, ?_⟩
  rw [it_lt hf] at h
  simpa using h
theorem bag_take {R : List Int} {M : List (Int × Int)} {k : Int} {f : Nat} (hf : f < M.length) (h : rk R (it M f).1 = rk R k) (hm : ∀ j, j < f → rk R (it M j).1 ≠ rk R k) :
    (stab (rJ R) M).take (less R (stab (rJ R) M) k) ++ (stab (rJ R) M).drop (less R (stab (rJ R) M) k + 1) = stab (rJ R) (M.take f ++ M.drop (f + 1)) := by
  rw [it_lt hf] at h
  have e : less R (stab (rJ R) M) k = cLt (rJ R) (rJ R M[f]) M := by
    rw [less_perm']
    unfold less cLt
    congr 1
    funext y
    rw [show rJ R M[f] = rk R k from h]
    rfl
  rw [e]
  refine bag_out (rJ R) M f hf fun j hj => ?_
  have := hm j hj
  rw [it_lt (by omega)] at this
  rw [show rJ R M[f] = rk R k from h]
  exact this

set_option linter.unusedSimpArgs false in
set_option maxRecDepth 100000 in
set_option maxHeartbeats 8000000 in
theorem wFnBag (A0 : Option Addr) (n0 c0 : Nat) (l0 : List (Bool × (Int × Int))) (A2 : Option Addr) (n2 c2 : Nat) (R : List Int) (w : World)
    (r0 : Rd w w.heap.size 3 A0 n0 (cQ l0)) (_z0 : ∀ y ∈ l0, InI y.2.1 ∧ InI y.2.2) (le0 : n0 ≤ c0) (b0 : c0 * 24 ≤ 140737488351232)
    (r2 : Rd w w.heap.size 1 A2 n2 (cZ R)) (_z2 : ∀ y ∈ R, InI y) (_le2 : n2 ≤ c2) (_b2 : c2 * 8 ≤ 140737488351232) :
    Calls Try.prog 3 #[.slice A0 n0 c0, .agg #[.slice A2 n2 c2]] w fun e w' => e = .returned (.bool true) ∧ Below w.heap.size w w' := by
  clear _z0 _z2 _le2 _b2
  have hn : n0 * 24 ≤ 140737488351232 := by omega
  have HL := Lib.hid (rdQ_len r0)
  have hb0 := below_alloc1 w (.cells #[.slice A2 n2 c2] 25)
  have d2 : (w.alloc (.cells #[.slice A2 n2 c2] 25)).cell? ⟨w.heap.size, 0, none⟩ = some (.slice A2 n2 c2) := by simp [go_sem]
  have ra := Lib.hid (r0.on hb0)
  have rr := Lib.hid (r2.on hb0)
  clear r0 r2 le0 b0
  go_enter Try.func3, Try.ntmps3
  go_wp2
  generalize w.alloc (.cells #[.slice A2 n2 c2] 25) = W at *
  go_loopw [5, 6, 17] (fun u v s wr => ∃ (i : Nat) (A B : Option Addr) (ca cb : Nat) (M : List (Int × Int)), i ≤ n0 ∧ M.length ≤ i ∧ s = .int .i64 i ∧ u = .slice A M.length ca ∧ v = .slice B M.length cb ∧ Hid (Bag wr W.heap.size R (.slice A M.length ca) (.slice B M.length cb) M) ∧ Below W.heap.size W wr) (fun _ _ s _ => n0 - (intOf s).toNat)
  case atStart => exact ⟨0, none, none, 0, 0, [], Nat.zero_le _, Nat.zero_le _, rfl, rfl, rfl, ⟨own_nil _ _ _ _, own_nil _ _ _ _, Apt.nil _⟩, Below.refl _ _⟩
  case round =>
    obtain ⟨i, A, B, ca, cb, M, hi, hMi, rfl, rfl, rfl, HB, hbel⟩ := hrel
    have hca := own_le HB.out.1
    have hcb := own_le HB.out.2.1
    by_cases hlt : i < n0
    · obtain ⟨b, off, rfl, _, hc0, hc1, hc2⟩ := rdQ_at (k := i) (ra.out.on hbel) hlt
      obtain ⟨⟨o, x⟩, hx⟩ : ∃ x, x = itQ l0 i := ⟨_, rfl⟩
      rw [← hx] at hc0 hc1 hc2
      clear hx
      dsimp only at hc0 hc1 hc2
      have hbx := hbel.alloc hbel.size (.cells #[.bool o, .int .i64 x.1, .int .i64 x.2] 30)
      have t2 := cell_on hbx d2
      have y0 : (wr.alloc (.cells #[.bool o, .int .i64 x.1, .int .i64 x.2] 30)).cell? ⟨wr.heap.size, 0, none⟩ = some (.bool o) := by simp [go_sem]
      have y1 : (wr.alloc (.cells #[.bool o, .int .i64 x.1, .int .i64 x.2] 30)).cell? ⟨wr.heap.size, 1, none⟩ = some (.int .i64 x.1) := by simp [go_sem]
      have y2 : (wr.alloc (.cells #[.bool o, .int .i64 x.1, .int .i64 x.2] 30)).cell? ⟨wr.heap.size, 2, none⟩ = some (.int .i64 x.2) := by simp [go_sem]
      have rq := Lib.hid (rr.out.on hbx)
      have HB2 := Lib.hid (HB.out.on (below_alloc1 wr (.cells #[.bool o, .int .i64 x.1, .int .i64 x.2] 30)))
      have hne : Hid (some wr.heap.size ≠ Value.ownBlock (.slice B M.length cb)) := fun e => by have := (HB.out.2.1.lt _ e.symm).2; omega
      obtain ⟨m, hm⟩ : ∃ m, m = stab (rJ R) M := ⟨_, rfl⟩
      have HM := Lib.hid hm
      have HML : Hid (m.length = M.length) := by unfold Hid; rw [hm, stab_len]
      have hsr : Srt (rJ R) m := by rw [hm]; exact stab_srt (rJ R) M
      clear hm HB
      have HS1 := Lib.hid (first_step hsr x)
      have HS2 := Lib.hid (past_step hsr x)
      have hfd := Lib.hid (item_found hsr x)
      clear hsr
      rw [HML.out] at HS1 HS2 hfd
      have ro : Hid (Rd (wr.alloc (.cells #[.bool o, .int .i64 x.1, .int .i64 x.2] 30)) (wr.alloc (.cells #[.bool o, .int .i64 x.1, .int .i64 x.2] 30)).heap.size 2 A M.length (cI m)) := by unfold Hid; rw [HM.out]; exact Rd.of_own HB2.out.1
      cases o
      · go_wp2_with fail
        generalize wr.alloc (.cells #[.bool false, .int .i64 x.1, .int .i64 x.2] 30) = W2 at hbx t2 y0 y1 y2 rq HB2 ro ⊢
        refine (SearchPast_any R A2 n2 c2 m A M.length ca x _ rq.out ro.out (by omega)).mono ?_
        rintro e w3 ⟨r, hcut, rfl, hb3⟩
        have hri : r ≤ M.length := hcut.1
        have HS3 : Hid (Step (pPast R m x) m.length r) := by
          unfold Hid
          have := HS2.out.cut hcut
          rw [HML.out, this]
          exact HS2.out
        clear hcut
        have u1 := cell_on hb3 y1
        have u2 := cell_on hb3 y2
        have HB3 := Lib.hid (HB2.out.on hb3)
        have ro3 := Lib.hid (ro.out.on hb3)
        have b3 := below_step hbx hb3
        have HPI : Hid (m.take r ++ x :: m.drop r = stab (rJ R) (M ++ [x])) := by
          unfold Hid
          have := past_ins R M x r (by rw [← HM.out]; exact HS3.out)
          rw [← HM.out] at this
          exact this
        have r0' : (0 : Int) ≤ (r : Int) := Int.natCast_nonneg _
        have r1' : (r : Int) ≤ (M.length : Int) := by omega
        go_wp2_with (first | (go_at_call 15; refine (inside_yes _ _ _ (by omega) (by omega)).mono ?_; rintro e w4 ⟨rfl, rfl⟩) | fail)
        clear y0 y1 y2 HB2 ro
        have dr : Below w3.heap.size w3 w3.drew := (Below.refl _ _).drew
        have al : Below w3.heap.size w3 (w3.alloc (.cells #[.int .i64 x.1, .int .i64 x.2] 28)).drew := (below_alloc1 w3 (.cells #[.int .i64 x.1, .int .i64 x.2] 28)).drew
        refine wp_region_held_drew (S := fun w' => w'.cell? ⟨wr.heap.size, 1, none⟩ = some (.int .i64 x.1) ∧ w'.cell? ⟨wr.heap.size, 2, none⟩ = some (.int .i64 x.2)) (by kernel_rfl) ⟨u1, u2⟩ (fun hHeld => ?_)
        ((refine wpAnyH_take (i := 0) (v := ?_) rfl (by kernel_rfl) (by kernel_rfl) (by kernel_rfl) (fun _ _ _ h => h) (Or.inl ⟨by kernel_rfl, ?_⟩) (by assumption) ?_; rotate_left; (focus ((try simp only [List.getElem_toArray, List.getElem_cons_zero, List.getElem_cons_succ]); intro w hSw; (try dsimp only at hSw); go_simp; all_goals (with_reducible rfl))); (try simp only [List.getElem_toArray, List.getElem_cons_zero, List.getElem_cons_succ, Act.put, List.setIfInBounds_toArray, List.set_cons_zero, List.set_cons_succ])); (refine wpAnyH_take (i := 1) (v := ?_) rfl (by kernel_rfl) (by kernel_rfl) (by kernel_rfl) (fun _ _ _ h => h) (Or.inl ⟨by kernel_rfl, ?_⟩) (by assumption) ?_; rotate_left; (focus ((try simp only [List.getElem_toArray, List.getElem_cons_zero, List.getElem_cons_succ]); intro w hSw; (try dsimp only at hSw); go_simp; all_goals (with_reducible rfl))); (try simp only [List.getElem_toArray, List.getElem_cons_zero, List.getElem_cons_succ, Act.put, List.setIfInBounds_toArray, List.set_cons_zero, List.set_cons_succ])); (refine wpAnyH_take (i := 2) (v := ?_) rfl (by kernel_rfl) (by kernel_rfl) (by kernel_rfl) (fun _ _ _ h => h) (Or.inl ⟨by kernel_rfl, ?_⟩) (by assumption) ?_; rotate_left; (focus ((try simp only [List.getElem_toArray, List.getElem_cons_zero, List.getElem_cons_succ]); intro w hSw; (try dsimp only at hSw); go_simp; all_goals (with_reducible rfl))); (try simp only [List.getElem_toArray, List.getElem_cons_zero, List.getElem_cons_succ, Act.put, List.setIfInBounds_toArray, List.set_cons_zero, List.set_cons_succ])); (refine wpAnyH_take (i := 3) (v := ?_) rfl (by kernel_rfl) (by kernel_rfl) (by kernel_rfl) (fun _ _ _ h => h) (Or.inl ⟨by kernel_rfl, ?_⟩) (by assumption) ?_; rotate_left; (focus ((try simp only [List.getElem_toArray, List.getElem_cons_zero, List.getElem_cons_succ]); intro w hSw; (try dsimp only at hSw); go_simp; all_goals (with_reducible rfl))); (try simp only [List.getElem_toArray, List.getElem_cons_zero, List.getElem_cons_succ, Act.put, List.setIfInBounds_toArray, List.set_cons_zero, List.set_cons_succ])); (refine wpAnyH_take (i := 5) (v := ?_) rfl (by kernel_rfl) (by kernel_rfl) (by kernel_rfl) (fun _ _ _ h => h) (Or.inl ⟨by kernel_rfl, ?_⟩) (by assumption) ?_; rotate_left; (focus ((try simp only [List.getElem_toArray, List.getElem_cons_zero, List.getElem_cons_succ]); intro w hSw; (try dsimp only at hSw); go_simp; all_goals (with_reducible rfl))); (try simp only [List.getElem_toArray, List.getElem_cons_zero, List.getElem_cons_succ, Act.put, List.setIfInBounds_toArray, List.set_cons_zero, List.set_cons_succ])); (refine wpAnyH_take (i := 6) (v := ?_) rfl (by kernel_rfl) (by kernel_rfl) (by kernel_rfl) (fun _ _ _ h => h) (Or.inl ⟨by kernel_rfl, ?_⟩) (by assumption) ?_; rotate_left; (focus ((try simp only [List.getElem_toArray, List.getElem_cons_zero, List.getElem_cons_succ]); intro w hSw; (try dsimp only at hSw); go_simp; all_goals (with_reducible rfl))); (try simp only [List.getElem_toArray, List.getElem_cons_zero, List.getElem_cons_succ, Act.put, List.setIfInBounds_toArray, List.set_cons_zero, List.set_cons_succ])); (refine wpAnyH_take (i := 7) (v := ?_) rfl (by kernel_rfl) (by kernel_rfl) (by kernel_rfl) (fun _ _ _ h => h) (Or.inl ⟨by kernel_rfl, ?_⟩) (by assumption) ?_; rotate_left; (focus ((try simp only [List.getElem_toArray, List.getElem_cons_zero, List.getElem_cons_succ]); intro w hSw; (try dsimp only at hSw); go_simp; all_goals (with_reducible rfl))); (try simp only [List.getElem_toArray, List.getElem_cons_zero, List.getElem_cons_succ, Act.put, List.setIfInBounds_toArray, List.set_cons_zero, List.set_cons_succ])))
        (refine wpAnyH_ready (rs := [4, 8]) (by kernel_rfl) (by simp) ?_; refine AllReadyH.cons rfl (fun K hK => ?_) (AllReadyH.cons rfl (fun K hK => ?_) AllReadyH.nil); all_goals (try simp only [List.getElem_toArray, List.getElem_cons_zero, List.getElem_cons_succ]))
        · (go_simp; go_at_call 16; refine (put_items m A M.length ca r x _ (ro3.out.on dr) hri hca (by omega)).mono ?_; rintro e w5 ⟨A5, c5, rfl, o5, hb5⟩; go_wp2_with fail)
          (refine hK.out _ _ (by first | (exact ⟨cell_on hb5 u1, cell_on hb5 u2⟩) | (dsimp only; exact ⟨cell_on hb5 u1, cell_on hb5 u2⟩)) (fun hHeld => ?_); clear hK K; (try simp only [List.getElem_toArray, List.getElem_cons_zero, List.getElem_cons_succ, Act.put, List.setIfInBounds_toArray, List.set_cons_zero, List.set_cons_succ]))
          (refine wpAnyH_ready (rs := [8]) (by kernel_rfl) (by simp) ?_; refine AllReadyH.cons rfl (fun K hK => ?_) AllReadyH.nil; (try simp only [List.getElem_toArray, List.getElem_cons_zero, List.getElem_cons_succ]))
          go_simp
          (refine hK.out _ _ (by first | (exact ⟨cell_on (below_alloc1 w5 _) hHeld.1, cell_on (below_alloc1 w5 _) hHeld.2⟩) | (dsimp only; exact ⟨cell_on (below_alloc1 w5 _) hHeld.1, cell_on (below_alloc1 w5 _) hHeld.2⟩)) (fun hHeld => ?_); clear hK K; (try simp only [List.getElem_toArray, List.getElem_cons_zero, List.getElem_cons_succ, Act.put, List.setIfInBounds_toArray, List.set_cons_zero, List.set_cons_succ]))
          have bl5 : Below w3.heap.size w3 (w5.alloc (.cells #[.int .i64 x.1, .int .i64 x.2] 28)) := below_step (below_step dr hb5) (below_alloc1 w5 _)
          have bc : Below W.heap.size W (w5.alloc (.cells #[.int .i64 x.1, .int .i64 x.2] 28)) := below_step b3 bl5
          have oL := own_on HB3.out.2.1 bl5
          have oO := own_base (base' := W.heap.size) (o5.alloc (.cells #[.int .i64 x.1, .int .i64 x.2] 28)) b3.size
          have ap := apt_fresh HB3.out.2.1 (own_base (base' := w3.heap.size) o5 dr.size)
          (refine wpAnyH_ready (rs := [9]) (by kernel_rfl) (by simp) ?_; refine AllReadyH.cons rfl (fun K hK => ?_) AllReadyH.nil; (try simp only [List.getElem_toArray, List.getElem_cons_zero, List.getElem_cons_succ]))
          rw [if_pos (by kernel_rfl)]
          refine wp_all eI _ _ rfl W.heap.size _ (.slice B M.length cb) M.length (cI M) rfl oL _ _ 1 1 (cI [x]) rfl (rd_new w5 x 28) (cI_one _) (by omega) (by unfold maxLen; omega) (Below.size bc) ?_
          intro v6 w6 h6
          have hoth := All.other h6 oO ap
          have hc1' := h6.2.1.cell hHeld.1 hne.out
          have hc2' := h6.2.1.cell hHeld.2 hne.out
          obtain ⟨A6, c6, rfl, o6, bl6⟩ := all_out oL (Below.size bc) h6
          clear h6
          have b6 := Below.trans bc bl6
          (refine hK.out _ _ (by first | (exact ⟨hc1', hc2'⟩) | (dsimp only; exact ⟨hc1', hc2'⟩)) (fun hHeld => ?_); clear hK K; (try simp only [List.getElem_toArray, List.getElem_cons_zero, List.getElem_cons_succ, Act.put, List.setIfInBounds_toArray, List.set_cons_zero, List.set_cons_succ]))
          ((refine wpAnyH_take (i := 10) (v := ?_) rfl (by kernel_rfl) (by kernel_rfl) (by kernel_rfl) (fun _ _ _ h => h) (Or.inl ⟨by kernel_rfl, ?_⟩) (by assumption) ?_; rotate_left; (focus ((try simp only [List.getElem_toArray, List.getElem_cons_zero, List.getElem_cons_succ]); intro w hSw; (try dsimp only at hSw); go_simp; all_goals (with_reducible rfl))); (try simp only [List.getElem_toArray, List.getElem_cons_zero, List.getElem_cons_succ, Act.put, List.setIfInBounds_toArray, List.set_cons_zero, List.set_cons_succ])); (refine wpAnyH_take (i := 11) (v := ?_) rfl (by kernel_rfl) (by kernel_rfl) (by kernel_rfl) (fun _ _ _ h => h) (Or.inl ⟨by kernel_rfl, ?_⟩) (by assumption) ?_; rotate_left; (focus ((try simp only [List.getElem_toArray, List.getElem_cons_zero, List.getElem_cons_succ]); intro w hSw; (try dsimp only at hSw); go_simp; all_goals (with_reducible rfl))); (try simp only [List.getElem_toArray, List.getElem_cons_zero, List.getElem_cons_succ, Act.put, List.setIfInBounds_toArray, List.set_cons_zero, List.set_cons_succ])))
          (refine wpAnyH_done (by kernel_rfl) ?_ _)
          rw [HPI.out] at hoth
          have e6 : M.length + 1 = (M ++ [x]).length := by simp
          rw [e6] at o6 hoth
          have HB6 : Hid (Bag w6 W.heap.size R (.slice A5 (M ++ [x]).length c5) (.slice A6 (M ++ [x]).length c6) (M ++ [x])) := ⟨hoth.1, o6, hoth.2.symm⟩
          have HE := Lib.hid e6
          clear hoth o6 hc1' hc2' e6 hHeld
          go_wp2
          go_roundw
          case rel => exact ⟨i + 1, A5, A6, c5, c6, M ++ [x], by omega, by rw [← HE.out]; omega, by go_num, by rw [HE.out], by rw [HE.out], HB6, b6⟩
          case measure => simp [intOf]; omega
        · go_simp
          (refine hK.out _ _ (by first | (exact ⟨cell_on al u1, cell_on al u2⟩) | (dsimp only; exact ⟨cell_on al u1, cell_on al u2⟩)) (fun hHeld => ?_); clear hK K; (try simp only [List.getElem_toArray, List.getElem_cons_zero, List.getElem_cons_succ, Act.put, List.setIfInBounds_toArray, List.set_cons_zero, List.set_cons_succ]))
          (refine wpAnyH_ready (rs := [4]) (by kernel_rfl) (by simp) ?_; refine AllReadyH.cons rfl (fun K hK => ?_) AllReadyH.nil; (try simp only [List.getElem_toArray, List.getElem_cons_zero, List.getElem_cons_succ]))
          (go_simp; go_at_call 16; refine (put_items m A M.length ca r x _ (ro3.out.on al) hri hca (by omega)).mono ?_; rintro e w5 ⟨A5, c5, rfl, o5, hb5⟩; go_wp2_with fail)
          (refine hK.out _ _ (by first | (exact ⟨cell_on (below_step al hb5) u1, cell_on (below_step al hb5) u2⟩) | (dsimp only; exact ⟨cell_on (below_step al hb5) u1, cell_on (below_step al hb5) u2⟩)) (fun hHeld => ?_); clear hK K; (try simp only [List.getElem_toArray, List.getElem_cons_zero, List.getElem_cons_succ, Act.put, List.setIfInBounds_toArray, List.set_cons_zero, List.set_cons_succ]))
          have bl5 : Below w3.heap.size w3 w5 := below_step al hb5
          have bc : Below W.heap.size W w5 := below_step b3 bl5
          have oL := own_on HB3.out.2.1 bl5
          have oO := own_base (base' := W.heap.size) o5 (Nat.le_trans b3.size al.size)
          have ap := apt_fresh HB3.out.2.1 (own_base (base' := w3.heap.size) o5 al.size)
          (refine wpAnyH_ready (rs := [9]) (by kernel_rfl) (by simp) ?_; refine AllReadyH.cons rfl (fun K hK => ?_) AllReadyH.nil; (try simp only [List.getElem_toArray, List.getElem_cons_zero, List.getElem_cons_succ]))
          rw [if_pos (by kernel_rfl)]
          refine wp_all eI _ _ rfl W.heap.size _ (.slice B M.length cb) M.length (cI M) rfl oL _ _ 1 1 (cI [x]) rfl (Rd.on (Rd.drew (rd_new w3 x 28)) hb5) (cI_one _) (by omega) (by unfold maxLen; omega) (Below.size bc) ?_
          intro v6 w6 h6
          have hoth := All.other h6 oO ap
          have hc1' := h6.2.1.cell hHeld.1 hne.out
          have hc2' := h6.2.1.cell hHeld.2 hne.out
          obtain ⟨A6, c6, rfl, o6, bl6⟩ := all_out oL (Below.size bc) h6
          clear h6
          have b6 := Below.trans bc bl6
          (refine hK.out _ _ (by first | (exact ⟨hc1', hc2'⟩) | (dsimp only; exact ⟨hc1', hc2'⟩)) (fun hHeld => ?_); clear hK K; (try simp only [List.getElem_toArray, List.getElem_cons_zero, List.getElem_cons_succ, Act.put, List.setIfInBounds_toArray, List.set_cons_zero, List.set_cons_succ]))
          ((refine wpAnyH_take (i := 10) (v := ?_) rfl (by kernel_rfl) (by kernel_rfl) (by kernel_rfl) (fun _ _ _ h => h) (Or.inl ⟨by kernel_rfl, ?_⟩) (by assumption) ?_; rotate_left; (focus ((try simp only [List.getElem_toArray, List.getElem_cons_zero, List.getElem_cons_succ]); intro w hSw; (try dsimp only at hSw); go_simp; all_goals (with_reducible rfl))); (try simp only [List.getElem_toArray, List.getElem_cons_zero, List.getElem_cons_succ, Act.put, List.setIfInBounds_toArray, List.set_cons_zero, List.set_cons_succ])); (refine wpAnyH_take (i := 11) (v := ?_) rfl (by kernel_rfl) (by kernel_rfl) (by kernel_rfl) (fun _ _ _ h => h) (Or.inl ⟨by kernel_rfl, ?_⟩) (by assumption) ?_; rotate_left; (focus ((try simp only [List.getElem_toArray, List.getElem_cons_zero, List.getElem_cons_succ]); intro w hSw; (try dsimp only at hSw); go_simp; all_goals (with_reducible rfl))); (try simp only [List.getElem_toArray, List.getElem_cons_zero, List.getElem_cons_succ, Act.put, List.setIfInBounds_toArray, List.set_cons_zero, List.set_cons_succ])))
          (refine wpAnyH_done (by kernel_rfl) ?_ _)
          rw [HPI.out] at hoth
          have e6 : M.length + 1 = (M ++ [x]).length := by simp
          rw [e6] at o6 hoth
          have HB6 : Hid (Bag w6 W.heap.size R (.slice A5 (M ++ [x]).length c5) (.slice A6 (M ++ [x]).length c6) (M ++ [x])) := ⟨hoth.1, o6, hoth.2.symm⟩
          have HE := Lib.hid e6
          clear hoth o6 hc1' hc2' e6 hHeld
          go_wp2
          go_roundw
          case rel => exact ⟨i + 1, A5, A6, c5, c6, M ++ [x], by omega, by rw [← HE.out]; omega, by go_num, by rw [HE.out], by rw [HE.out], HB6, b6⟩
          case measure => simp [intOf]; omega
      · go_wp2_with fail
        generalize wr.alloc (.cells #[.bool true, .int .i64 x.1, .int .i64 x.2] 30) = W2 at hbx t2 y0 y1 y2 rq HB2 ro ⊢
        refine (FindItem_any R A2 n2 c2 m A M.length ca x _ rq.out ro.out (by omega)).mono ?_
        rintro e w3 ⟨r, hcut, rfl, hb3⟩
        have hri : r ≤ M.length := hcut.1
        have HR : Hid (less R m x.1 = r) := (HS1.out.cut (hcut.congr fun i _ => item_np R m x i)).symm
        clear hcut
        have hF : fnd (cItem R m x) M.length r = decide (0 < eqs R m x.1) := by
          unfold fnd
          rw [decide_eq_decide, ← HR.out]
          exact hfd.out
        rw [hF]
        have hle := HS2.out.1
        rw [HR.out] at hle
        clear hF hfd
        have u1 := cell_on hb3 y1
        have u2 := cell_on hb3 y2
        have f2 := cell_on hb3 t2
        have HB3 := Lib.hid (HB2.out.on hb3)
        have rl := Lib.hid (Rd.of_own HB3.out.2.1)
        have rq3 := Lib.hid (rq.out.on hb3)
        have b3 := below_step hbx hb3
        clear y0 y1 y2 HB2 ro t2 rq
        obtain ⟨wo, rfl⟩ : ∃ wo : World, wo = wr := ⟨_, rfl⟩
        rcases Nat.eq_zero_or_pos (eqs R m x.1) with hq0 | hq0
        · have HQ0 := Lib.hid hq0
          rw [show decide (0 < eqs R m x.1) = false by rw [hq0]; rfl]
          clear hq0 hle
          go_wp2_with fail
          go_loopw [12, 54] (fun v s wr => ∃ k : Nat, k ≤ M.length ∧ s = .int .i64 k ∧ FstEq R M (rk R x.1) k v ∧ Below w3.heap.size w3 wr) (fun _ s _ => M.length - (intOf s).toNat)
          case atStart => exact ⟨0, Nat.zero_le _, rfl, .inl ⟨rfl, fun j hj => absurd hj (by omega)⟩, Below.refl _ _⟩
          case round =>
            obtain ⟨k, hk, rfl, hfst, hbel2⟩ := hrel
            by_cases hlk : k < M.length
            · obtain ⟨bl, ol, rfl, _, hg1, hg2⟩ := rdI_at (k := k) (rl.out.on hbel2) hlk
              obtain ⟨⟨yk, yt⟩, hy⟩ : ∃ y, y = it M k := ⟨_, rfl⟩
              rw [← hy] at hg1 hg2
              have HY := Lib.hid hy
              clear hy
              have hbz := hbel2.alloc hbel2.size (.cells #[.int .i64 yk, .int .i64 yt] 28)
              have v2 := cell_on hbz f2
              have v0 := cell_on hbz u1
              have v1 := cell_on hbz u2
              have z0 : (wr.alloc (.cells #[.int .i64 yk, .int .i64 yt] 28)).cell? ⟨wr.heap.size, 0, none⟩ = some (.int .i64 yk) := by simp [go_sem]
              have z1 : (wr.alloc (.cells #[.int .i64 yk, .int .i64 yt] 28)).cell? ⟨wr.heap.size, 1, none⟩ = some (.int .i64 yt) := by simp [go_sem]
              have rq4 := Lib.hid (rq3.out.on hbz)
              go_wp2_with fail
              generalize wr.alloc (.cells #[.int .i64 yk, .int .i64 yt] 28) = W4 at hbz v2 v0 v1 z0 z1 rq4 ⊢
              by_cases hq : rk R yk = rk R x.1
              · have hv : (rk R yk == rk R x.1) = true := by rw [beq_iff_eq]; exact hq
                have HQ : Hid (rk R (it M k).1 = rk R x.1) := by unfold Hid; rw [← HY.out]; exact hq
                clear hq
                rcases hfst with ⟨rfl, hno⟩ | ⟨f, rfl, hfk, hf1, hf2⟩
                · have HN := Lib.hid hno
                  clear hno
                  refine wp_region_held_drew (S := (fun w' => w'.cell? ⟨w.heap.size, 0, none⟩ = some (.slice A2 n2 c2) ∧ w'.cell? ⟨wo.heap.size, 1, none⟩ = some (.int .i64 x.1) ∧ w'.cell? ⟨wo.heap.size, 2, none⟩ = some (.int .i64 x.2) ∧ w'.cell? ⟨wr.heap.size, 0, none⟩ = some (.int .i64 yk) ∧ w'.cell? ⟨wr.heap.size, 1, none⟩ = some (.int .i64 yt) ∧ Below W4.heap.size W4 w')) (by kernel_rfl) ⟨v2, v0, v1, z0, z1, (Below.refl _ _).drew⟩ (fun hHeld => ?_)
                  ((refine wpAnyH_take (i := 0) (v := ?_) rfl (by kernel_rfl) (by kernel_rfl) (by kernel_rfl) (fun _ _ _ h => h) (Or.inl ⟨by kernel_rfl, ?_⟩) (by assumption) ?_; rotate_left; (focus ((try simp only [List.getElem_toArray, List.getElem_cons_zero, List.getElem_cons_succ]); intro w hSw; (try dsimp only at hSw); go_simp; all_goals (with_reducible rfl))); (try simp only [List.getElem_toArray, List.getElem_cons_zero, List.getElem_cons_succ, Act.put, List.setIfInBounds_toArray, List.set_cons_zero, List.set_cons_succ])); (refine wpAnyH_take (i := 1) (v := ?_) rfl (by kernel_rfl) (by kernel_rfl) (by kernel_rfl) (fun _ _ _ h => h) (Or.inl ⟨by kernel_rfl, ?_⟩) (by assumption) ?_; rotate_left; (focus ((try simp only [List.getElem_toArray, List.getElem_cons_zero, List.getElem_cons_succ]); intro w hSw; (try dsimp only at hSw); go_simp; all_goals (with_reducible rfl))); (try simp only [List.getElem_toArray, List.getElem_cons_zero, List.getElem_cons_succ, Act.put, List.setIfInBounds_toArray, List.set_cons_zero, List.set_cons_succ])); (refine wpAnyH_take (i := 3) (v := ?_) rfl (by kernel_rfl) (by kernel_rfl) (by kernel_rfl) (fun _ _ _ h => h) (Or.inl ⟨by kernel_rfl, ?_⟩) (by assumption) ?_; rotate_left; (focus ((try simp only [List.getElem_toArray, List.getElem_cons_zero, List.getElem_cons_succ]); intro w hSw; (try dsimp only at hSw); go_simp; all_goals (with_reducible rfl))); (try simp only [List.getElem_toArray, List.getElem_cons_zero, List.getElem_cons_succ, Act.put, List.setIfInBounds_toArray, List.set_cons_zero, List.set_cons_succ])); (refine wpAnyH_take (i := 4) (v := ?_) rfl (by kernel_rfl) (by kernel_rfl) (by kernel_rfl) (fun _ _ _ h => h) (Or.inl ⟨by kernel_rfl, ?_⟩) (by assumption) ?_; rotate_left; (focus ((try simp only [List.getElem_toArray, List.getElem_cons_zero, List.getElem_cons_succ]); intro w hSw; (try dsimp only at hSw); go_simp; all_goals (with_reducible rfl))); (try simp only [List.getElem_toArray, List.getElem_cons_zero, List.getElem_cons_succ, Act.put, List.setIfInBounds_toArray, List.set_cons_zero, List.set_cons_succ])); (refine wpAnyH_take (i := 5) (v := ?_) rfl (by kernel_rfl) (by kernel_rfl) (by kernel_rfl) (fun _ _ _ h => h) (Or.inl ⟨by kernel_rfl, ?_⟩) (by assumption) ?_; rotate_left; (focus ((try simp only [List.getElem_toArray, List.getElem_cons_zero, List.getElem_cons_succ]); intro w hSw; (try dsimp only at hSw); go_simp; all_goals (with_reducible rfl))); (try simp only [List.getElem_toArray, List.getElem_cons_zero, List.getElem_cons_succ, Act.put, List.setIfInBounds_toArray, List.set_cons_zero, List.set_cons_succ])))
                  (refine wpAnyH_ready (rs := [2]) (by kernel_rfl) (by simp) ?_; refine AllReadyH.cons rfl (fun K hK => ?_) AllReadyH.nil; (try simp only [List.getElem_toArray, List.getElem_cons_zero, List.getElem_cons_succ]))
                  (go_simp; go_at_call 18; go_split_ands; refine (lrank_any R A2 n2 c2 _ _ _ (rq4.out.on (by assumption))).mono ?_; rintro e w5 ⟨rfl, hbc'⟩; have hbc := nx hbc'; clear hbc'; go_wp2_with fail)
                  (refine hK.out _ _ (by first | (go_split_ands; exact ⟨nx_cell hbc (by assumption), nx_cell hbc (by assumption), nx_cell hbc (by assumption), nx_cell hbc (by assumption), nx_cell hbc (by assumption), nx_step (by assumption) hbc⟩) | (dsimp only; go_split_ands; exact ⟨nx_cell hbc (by assumption), nx_cell hbc (by assumption), nx_cell hbc (by assumption), nx_cell hbc (by assumption), nx_cell hbc (by assumption), nx_step (by assumption) hbc⟩)) (fun hHeld => ?_); clear hK K; (try simp only [List.getElem_toArray, List.getElem_cons_zero, List.getElem_cons_succ, Act.put, List.setIfInBounds_toArray, List.set_cons_zero, List.set_cons_succ]))
                  (refine wpAnyH_ready (rs := [6]) (by kernel_rfl) (by simp) ?_; refine AllReadyH.cons rfl (fun K hK => ?_) AllReadyH.nil; (try simp only [List.getElem_toArray, List.getElem_cons_zero, List.getElem_cons_succ]))
                  (go_simp; go_at_call 18; go_split_ands; refine (lrank_any R A2 n2 c2 _ _ _ (rq4.out.on (by assumption))).mono ?_; rintro e w5 ⟨rfl, hbc'⟩; have hbc := nx hbc'; clear hbc'; go_wp2_with fail)
                  (refine hK.out _ _ (by first | (go_split_ands; exact ⟨nx_cell hbc (by assumption), nx_cell hbc (by assumption), nx_cell hbc (by assumption), nx_cell hbc (by assumption), nx_cell hbc (by assumption), nx_step (by assumption) hbc⟩) | (dsimp only; go_split_ands; exact ⟨nx_cell hbc (by assumption), nx_cell hbc (by assumption), nx_cell hbc (by assumption), nx_cell hbc (by assumption), nx_cell hbc (by assumption), nx_step (by assumption) hbc⟩)) (fun hHeld => ?_); clear hK K; (try simp only [List.getElem_toArray, List.getElem_cons_zero, List.getElem_cons_succ, Act.put, List.setIfInBounds_toArray, List.set_cons_zero, List.set_cons_succ]))
                  ((refine wpAnyH_take (i := 7) (v := ?_) rfl (by kernel_rfl) (by kernel_rfl) (by kernel_rfl) (fun _ _ _ h => h) (Or.inl ⟨by kernel_rfl, ?_⟩) (by assumption) ?_; rotate_left; (focus ((try simp only [List.getElem_toArray, List.getElem_cons_zero, List.getElem_cons_succ]); intro w hSw; (try dsimp only at hSw); go_simp; all_goals (with_reducible rfl))); (try simp only [List.getElem_toArray, List.getElem_cons_zero, List.getElem_cons_succ, Act.put, List.setIfInBounds_toArray, List.set_cons_zero, List.set_cons_succ])); (refine wpAnyH_take (i := 8) (v := ?_) rfl (by kernel_rfl) (by kernel_rfl) (by kernel_rfl) (fun _ _ _ h => h) (Or.inl ⟨by kernel_rfl, ?_⟩) (by assumption) ?_; rotate_left; (focus ((try simp only [List.getElem_toArray, List.getElem_cons_zero, List.getElem_cons_succ]); intro w hSw; (try dsimp only at hSw); go_simp; all_goals (with_reducible rfl))); (try simp only [List.getElem_toArray, List.getElem_cons_zero, List.getElem_cons_succ, Act.put, List.setIfInBounds_toArray, List.set_cons_zero, List.set_cons_succ])))
                  ((refine wpAnyH_take (i := 9) (v := ?_) rfl (by kernel_rfl) (by kernel_rfl) (by kernel_rfl) (fun _ _ _ h => h) (Or.inl ⟨by kernel_rfl, ?_⟩) (by assumption) ?_; rotate_left; (focus ((try simp only [List.getElem_toArray, List.getElem_cons_zero, List.getElem_cons_succ]); intro w hSw; (try dsimp only at hSw); go_simp; all_goals (with_reducible rfl))); (try simp only [List.getElem_toArray, List.getElem_cons_zero, List.getElem_cons_succ, Act.put, List.setIfInBounds_toArray, List.set_cons_zero, List.set_cons_succ])); (refine wpAnyH_take (i := 10) (v := ?_) rfl (by kernel_rfl) (by kernel_rfl) (by kernel_rfl) (fun _ _ _ h => h) (Or.inl ⟨by kernel_rfl, ?_⟩) (by assumption) ?_; rotate_left; (focus ((try simp only [List.getElem_toArray, List.getElem_cons_zero, List.getElem_cons_succ]); intro w hSw; (try dsimp only at hSw); go_simp; all_goals (with_reducible rfl))); (try simp only [List.getElem_toArray, List.getElem_cons_zero, List.getElem_cons_succ, Act.put, List.setIfInBounds_toArray, List.set_cons_zero, List.set_cons_succ])); (refine wpAnyH_take (i := 11) (v := ?_) rfl (by kernel_rfl) (by kernel_rfl) (by kernel_rfl) (fun _ _ _ h => h) (Or.inl ⟨by kernel_rfl, ?_⟩) (by assumption) ?_; rotate_left; (focus ((try simp only [List.getElem_toArray, List.getElem_cons_zero, List.getElem_cons_succ]); intro w hSw; (try dsimp only at hSw); go_simp; all_goals (with_reducible rfl))); (try simp only [List.getElem_toArray, List.getElem_cons_zero, List.getElem_cons_succ, Act.put, List.setIfInBounds_toArray, List.set_cons_zero, List.set_cons_succ])))
                  (refine wpAnyH_done (by kernel_rfl) ?_ _)
                  have b5 : Below w3.heap.size w3 w5 := below_step hbz (by go_split_ands; assumption)
                  go_wp2
                  go_roundw
                  case rel => exact ⟨k + 1, by omega, by go_num, .inr ⟨k, rfl, by omega, HQ.out, HN.out⟩, b5⟩
                  case measure => simp [intOf]; omega
                · have HF := Lib.hid (And.intro hf1 hf2)
                  have hf0 : decide ((f : Int) < 0) = false := by simp
                  clear hf1 hf2
                  refine wp_region_held_drew (S := (fun w' => w'.cell? ⟨w.heap.size, 0, none⟩ = some (.slice A2 n2 c2) ∧ w'.cell? ⟨wo.heap.size, 1, none⟩ = some (.int .i64 x.1) ∧ w'.cell? ⟨wo.heap.size, 2, none⟩ = some (.int .i64 x.2) ∧ w'.cell? ⟨wr.heap.size, 0, none⟩ = some (.int .i64 yk) ∧ w'.cell? ⟨wr.heap.size, 1, none⟩ = some (.int .i64 yt) ∧ Below W4.heap.size W4 w')) (by kernel_rfl) ⟨v2, v0, v1, z0, z1, (Below.refl _ _).drew⟩ (fun hHeld => ?_)
                  ((refine wpAnyH_take (i := 0) (v := ?_) rfl (by kernel_rfl) (by kernel_rfl) (by kernel_rfl) (fun _ _ _ h => h) (Or.inl ⟨by kernel_rfl, ?_⟩) (by assumption) ?_; rotate_left; (focus ((try simp only [List.getElem_toArray, List.getElem_cons_zero, List.getElem_cons_succ]); intro w hSw; (try dsimp only at hSw); go_simp; all_goals (with_reducible rfl))); (try simp only [List.getElem_toArray, List.getElem_cons_zero, List.getElem_cons_succ, Act.put, List.setIfInBounds_toArray, List.set_cons_zero, List.set_cons_succ])); (refine wpAnyH_take (i := 1) (v := ?_) rfl (by kernel_rfl) (by kernel_rfl) (by kernel_rfl) (fun _ _ _ h => h) (Or.inl ⟨by kernel_rfl, ?_⟩) (by assumption) ?_; rotate_left; (focus ((try simp only [List.getElem_toArray, List.getElem_cons_zero, List.getElem_cons_succ]); intro w hSw; (try dsimp only at hSw); go_simp; all_goals (with_reducible rfl))); (try simp only [List.getElem_toArray, List.getElem_cons_zero, List.getElem_cons_succ, Act.put, List.setIfInBounds_toArray, List.set_cons_zero, List.set_cons_succ])); (refine wpAnyH_take (i := 3) (v := ?_) rfl (by kernel_rfl) (by kernel_rfl) (by kernel_rfl) (fun _ _ _ h => h) (Or.inl ⟨by kernel_rfl, ?_⟩) (by assumption) ?_; rotate_left; (focus ((try simp only [List.getElem_toArray, List.getElem_cons_zero, List.getElem_cons_succ]); intro w hSw; (try dsimp only at hSw); go_simp; all_goals (with_reducible rfl))); (try simp only [List.getElem_toArray, List.getElem_cons_zero, List.getElem_cons_succ, Act.put, List.setIfInBounds_toArray, List.set_cons_zero, List.set_cons_succ])); (refine wpAnyH_take (i := 4) (v := ?_) rfl (by kernel_rfl) (by kernel_rfl) (by kernel_rfl) (fun _ _ _ h => h) (Or.inl ⟨by kernel_rfl, ?_⟩) (by assumption) ?_; rotate_left; (focus ((try simp only [List.getElem_toArray, List.getElem_cons_zero, List.getElem_cons_succ]); intro w hSw; (try dsimp only at hSw); go_simp; all_goals (with_reducible rfl))); (try simp only [List.getElem_toArray, List.getElem_cons_zero, List.getElem_cons_succ, Act.put, List.setIfInBounds_toArray, List.set_cons_zero, List.set_cons_succ])); (refine wpAnyH_take (i := 5) (v := ?_) rfl (by kernel_rfl) (by kernel_rfl) (by kernel_rfl) (fun _ _ _ h => h) (Or.inl ⟨by kernel_rfl, ?_⟩) (by assumption) ?_; rotate_left; (focus ((try simp only [List.getElem_toArray, List.getElem_cons_zero, List.getElem_cons_succ]); intro w hSw; (try dsimp only at hSw); go_simp; all_goals (with_reducible rfl))); (try simp only [List.getElem_toArray, List.getElem_cons_zero, List.getElem_cons_succ, Act.put, List.setIfInBounds_toArray, List.set_cons_zero, List.set_cons_succ])))
                  (refine wpAnyH_ready (rs := [2]) (by kernel_rfl) (by simp) ?_; refine AllReadyH.cons rfl (fun K hK => ?_) AllReadyH.nil; (try simp only [List.getElem_toArray, List.getElem_cons_zero, List.getElem_cons_succ]))
                  (go_simp; go_at_call 18; go_split_ands; refine (lrank_any R A2 n2 c2 _ _ _ (rq4.out.on (by assumption))).mono ?_; rintro e w5 ⟨rfl, hbc'⟩; have hbc := nx hbc'; clear hbc'; go_wp2_with fail)
                  (refine hK.out _ _ (by first | (go_split_ands; exact ⟨nx_cell hbc (by assumption), nx_cell hbc (by assumption), nx_cell hbc (by assumption), nx_cell hbc (by assumption), nx_cell hbc (by assumption), nx_step (by assumption) hbc⟩) | (dsimp only; go_split_ands; exact ⟨nx_cell hbc (by assumption), nx_cell hbc (by assumption), nx_cell hbc (by assumption), nx_cell hbc (by assumption), nx_cell hbc (by assumption), nx_step (by assumption) hbc⟩)) (fun hHeld => ?_); clear hK K; (try simp only [List.getElem_toArray, List.getElem_cons_zero, List.getElem_cons_succ, Act.put, List.setIfInBounds_toArray, List.set_cons_zero, List.set_cons_succ]))
                  (refine wpAnyH_ready (rs := [6]) (by kernel_rfl) (by simp) ?_; refine AllReadyH.cons rfl (fun K hK => ?_) AllReadyH.nil; (try simp only [List.getElem_toArray, List.getElem_cons_zero, List.getElem_cons_succ]))
                  (go_simp; go_at_call 18; go_split_ands; refine (lrank_any R A2 n2 c2 _ _ _ (rq4.out.on (by assumption))).mono ?_; rintro e w5 ⟨rfl, hbc'⟩; have hbc := nx hbc'; clear hbc'; go_wp2_with fail)
                  (refine hK.out _ _ (by first | (go_split_ands; exact ⟨nx_cell hbc (by assumption), nx_cell hbc (by assumption), nx_cell hbc (by assumption), nx_cell hbc (by assumption), nx_cell hbc (by assumption), nx_step (by assumption) hbc⟩) | (dsimp only; go_split_ands; exact ⟨nx_cell hbc (by assumption), nx_cell hbc (by assumption), nx_cell hbc (by assumption), nx_cell hbc (by assumption), nx_cell hbc (by assumption), nx_step (by assumption) hbc⟩)) (fun hHeld => ?_); clear hK K; (try simp only [List.getElem_toArray, List.getElem_cons_zero, List.getElem_cons_succ, Act.put, List.setIfInBounds_toArray, List.set_cons_zero, List.set_cons_succ]))
                  ((refine wpAnyH_take (i := 7) (v := ?_) rfl (by kernel_rfl) (by kernel_rfl) (by kernel_rfl) (fun _ _ _ h => h) (Or.inl ⟨by kernel_rfl, ?_⟩) (by assumption) ?_; rotate_left; (focus ((try simp only [List.getElem_toArray, List.getElem_cons_zero, List.getElem_cons_succ]); intro w hSw; (try dsimp only at hSw); go_simp; all_goals (with_reducible rfl))); (try simp only [List.getElem_toArray, List.getElem_cons_zero, List.getElem_cons_succ, Act.put, List.setIfInBounds_toArray, List.set_cons_zero, List.set_cons_succ])); (refine wpAnyH_take (i := 8) (v := ?_) rfl (by kernel_rfl) (by kernel_rfl) (by kernel_rfl) (fun _ _ _ h => h) (Or.inl ⟨by kernel_rfl, ?_⟩) (by assumption) ?_; rotate_left; (focus ((try simp only [List.getElem_toArray, List.getElem_cons_zero, List.getElem_cons_succ]); intro w hSw; (try dsimp only at hSw); go_simp; all_goals (with_reducible rfl))); (try simp only [List.getElem_toArray, List.getElem_cons_zero, List.getElem_cons_succ, Act.put, List.setIfInBounds_toArray, List.set_cons_zero, List.set_cons_succ])))
                  ((refine wpAnyH_take (i := 9) (v := ?_) rfl (by kernel_rfl) (by kernel_rfl) (by kernel_rfl) (fun _ _ _ h => h) (Or.inl ⟨by kernel_rfl, ?_⟩) (by assumption) ?_; rotate_left; (focus ((try simp only [List.getElem_toArray, List.getElem_cons_zero, List.getElem_cons_succ]); intro w hSw; (try dsimp only at hSw); go_simp; all_goals (with_reducible rfl))); (try simp only [List.getElem_toArray, List.getElem_cons_zero, List.getElem_cons_succ, Act.put, List.setIfInBounds_toArray, List.set_cons_zero, List.set_cons_succ])); (refine wpAnyH_take (i := 10) (v := ?_) rfl (by kernel_rfl) (by kernel_rfl) (by kernel_rfl) (fun _ _ _ h => h) (Or.inl ⟨by kernel_rfl, ?_⟩) (by assumption) ?_; rotate_left; (focus ((try simp only [List.getElem_toArray, List.getElem_cons_zero, List.getElem_cons_succ]); intro w hSw; (try dsimp only at hSw); go_simp; all_goals (with_reducible rfl))); (try simp only [List.getElem_toArray, List.getElem_cons_zero, List.getElem_cons_succ, Act.put, List.setIfInBounds_toArray, List.set_cons_zero, List.set_cons_succ])); (refine wpAnyH_take (i := 11) (v := ?_) rfl (by kernel_rfl) (by kernel_rfl) (by kernel_rfl) (fun _ _ _ h => h) (Or.inl ⟨by kernel_rfl, ?_⟩) (by assumption) ?_; rotate_left; (focus ((try simp only [List.getElem_toArray, List.getElem_cons_zero, List.getElem_cons_succ]); intro w hSw; (try dsimp only at hSw); go_simp; all_goals (with_reducible rfl))); (try simp only [List.getElem_toArray, List.getElem_cons_zero, List.getElem_cons_succ, Act.put, List.setIfInBounds_toArray, List.set_cons_zero, List.set_cons_succ])))
                  (refine wpAnyH_done (by kernel_rfl) ?_ _)
                  have b5 : Below w3.heap.size w3 w5 := below_step hbz (by go_split_ands; assumption)
                  go_wp2
                  go_roundw
                  case rel => exact ⟨k + 1, by omega, by go_num, .inr ⟨f, rfl, by omega, HF.out.1, HF.out.2⟩, b5⟩
                  case measure => simp [intOf]; omega
              · have hv : (rk R yk == rk R x.1) = false := by rw [beq_eq_false_iff_ne]; exact hq
                have HQ : Hid (rk R (it M k).1 ≠ rk R x.1) := by unfold Hid; rw [← HY.out]; exact hq
                clear hq
                rcases hfst with ⟨rfl, hno⟩ | ⟨f, rfl, hfk, hf1, hf2⟩
                · have HN := Lib.hid hno
                  clear hno
                  refine wp_region_held_drew (S := (fun w' => w'.cell? ⟨w.heap.size, 0, none⟩ = some (.slice A2 n2 c2) ∧ w'.cell? ⟨wo.heap.size, 1, none⟩ = some (.int .i64 x.1) ∧ w'.cell? ⟨wo.heap.size, 2, none⟩ = some (.int .i64 x.2) ∧ w'.cell? ⟨wr.heap.size, 0, none⟩ = some (.int .i64 yk) ∧ w'.cell? ⟨wr.heap.size, 1, none⟩ = some (.int .i64 yt) ∧ Below W4.heap.size W4 w')) (by kernel_rfl) ⟨v2, v0, v1, z0, z1, (Below.refl _ _).drew⟩ (fun hHeld => ?_)
                  ((refine wpAnyH_take (i := 0) (v := ?_) rfl (by kernel_rfl) (by kernel_rfl) (by kernel_rfl) (fun _ _ _ h => h) (Or.inl ⟨by kernel_rfl, ?_⟩) (by assumption) ?_; rotate_left; (focus ((try simp only [List.getElem_toArray, List.getElem_cons_zero, List.getElem_cons_succ]); intro w hSw; (try dsimp only at hSw); go_simp; all_goals (with_reducible rfl))); (try simp only [List.getElem_toArray, List.getElem_cons_zero, List.getElem_cons_succ, Act.put, List.setIfInBounds_toArray, List.set_cons_zero, List.set_cons_succ])); (refine wpAnyH_take (i := 1) (v := ?_) rfl (by kernel_rfl) (by kernel_rfl) (by kernel_rfl) (fun _ _ _ h => h) (Or.inl ⟨by kernel_rfl, ?_⟩) (by assumption) ?_; rotate_left; (focus ((try simp only [List.getElem_toArray, List.getElem_cons_zero, List.getElem_cons_succ]); intro w hSw; (try dsimp only at hSw); go_simp; all_goals (with_reducible rfl))); (try simp only [List.getElem_toArray, List.getElem_cons_zero, List.getElem_cons_succ, Act.put, List.setIfInBounds_toArray, List.set_cons_zero, List.set_cons_succ])); (refine wpAnyH_take (i := 3) (v := ?_) rfl (by kernel_rfl) (by kernel_rfl) (by kernel_rfl) (fun _ _ _ h => h) (Or.inl ⟨by kernel_rfl, ?_⟩) (by assumption) ?_; rotate_left; (focus ((try simp only [List.getElem_toArray, List.getElem_cons_zero, List.getElem_cons_succ]); intro w hSw; (try dsimp only at hSw); go_simp; all_goals (with_reducible rfl))); (try simp only [List.getElem_toArray, List.getElem_cons_zero, List.getElem_cons_succ, Act.put, List.setIfInBounds_toArray, List.set_cons_zero, List.set_cons_succ])); (refine wpAnyH_take (i := 4) (v := ?_) rfl (by kernel_rfl) (by kernel_rfl) (by kernel_rfl) (fun _ _ _ h => h) (Or.inl ⟨by kernel_rfl, ?_⟩) (by assumption) ?_; rotate_left; (focus ((try simp only [List.getElem_toArray, List.getElem_cons_zero, List.getElem_cons_succ]); intro w hSw; (try dsimp only at hSw); go_simp; all_goals (with_reducible rfl))); (try simp only [List.getElem_toArray, List.getElem_cons_zero, List.getElem_cons_succ, Act.put, List.setIfInBounds_toArray, List.set_cons_zero, List.set_cons_succ])); (refine wpAnyH_take (i := 5) (v := ?_) rfl (by kernel_rfl) (by kernel_rfl) (by kernel_rfl) (fun _ _ _ h => h) (Or.inl ⟨by kernel_rfl, ?_⟩) (by assumption) ?_; rotate_left; (focus ((try simp only [List.getElem_toArray, List.getElem_cons_zero, List.getElem_cons_succ]); intro w hSw; (try dsimp only at hSw); go_simp; all_goals (with_reducible rfl))); (try simp only [List.getElem_toArray, List.getElem_cons_zero, List.getElem_cons_succ, Act.put, List.setIfInBounds_toArray, List.set_cons_zero, List.set_cons_succ])))
                  (refine wpAnyH_ready (rs := [2]) (by kernel_rfl) (by simp) ?_; refine AllReadyH.cons rfl (fun K hK => ?_) AllReadyH.nil; (try simp only [List.getElem_toArray, List.getElem_cons_zero, List.getElem_cons_succ]))
                  (go_simp; go_at_call 18; go_split_ands; refine (lrank_any R A2 n2 c2 _ _ _ (rq4.out.on (by assumption))).mono ?_; rintro e w5 ⟨rfl, hbc'⟩; have hbc := nx hbc'; clear hbc'; go_wp2_with fail)
                  (refine hK.out _ _ (by first | (go_split_ands; exact ⟨nx_cell hbc (by assumption), nx_cell hbc (by assumption), nx_cell hbc (by assumption), nx_cell hbc (by assumption), nx_cell hbc (by assumption), nx_step (by assumption) hbc⟩) | (dsimp only; go_split_ands; exact ⟨nx_cell hbc (by assumption), nx_cell hbc (by assumption), nx_cell hbc (by assumption), nx_cell hbc (by assumption), nx_cell hbc (by assumption), nx_step (by assumption) hbc⟩)) (fun hHeld => ?_); clear hK K; (try simp only [List.getElem_toArray, List.getElem_cons_zero, List.getElem_cons_succ, Act.put, List.setIfInBounds_toArray, List.set_cons_zero, List.set_cons_succ]))
                  (refine wpAnyH_ready (rs := [6]) (by kernel_rfl) (by simp) ?_; refine AllReadyH.cons rfl (fun K hK => ?_) AllReadyH.nil; (try simp only [List.getElem_toArray, List.getElem_cons_zero, List.getElem_cons_succ]))
                  (go_simp; go_at_call 18; go_split_ands; refine (lrank_any R A2 n2 c2 _ _ _ (rq4.out.on (by assumption))).mono ?_; rintro e w5 ⟨rfl, hbc'⟩; have hbc := nx hbc'; clear hbc'; go_wp2_with fail)
                  (refine hK.out _ _ (by first | (go_split_ands; exact ⟨nx_cell hbc (by assumption), nx_cell hbc (by assumption), nx_cell hbc (by assumption), nx_cell hbc (by assumption), nx_cell hbc (by assumption), nx_step (by assumption) hbc⟩) | (dsimp only; go_split_ands; exact ⟨nx_cell hbc (by assumption), nx_cell hbc (by assumption), nx_cell hbc (by assumption), nx_cell hbc (by assumption), nx_cell hbc (by assumption), nx_step (by assumption) hbc⟩)) (fun hHeld => ?_); clear hK K; (try simp only [List.getElem_toArray, List.getElem_cons_zero, List.getElem_cons_succ, Act.put, List.setIfInBounds_toArray, List.set_cons_zero, List.set_cons_succ]))
                  ((refine wpAnyH_take (i := 7) (v := ?_) rfl (by kernel_rfl) (by kernel_rfl) (by kernel_rfl) (fun _ _ _ h => h) (Or.inl ⟨by kernel_rfl, ?_⟩) (by assumption) ?_; rotate_left; (focus ((try simp only [List.getElem_toArray, List.getElem_cons_zero, List.getElem_cons_succ]); intro w hSw; (try dsimp only at hSw); go_simp; all_goals (with_reducible rfl))); (try simp only [List.getElem_toArray, List.getElem_cons_zero, List.getElem_cons_succ, Act.put, List.setIfInBounds_toArray, List.set_cons_zero, List.set_cons_succ])); (refine wpAnyH_take (i := 8) (v := ?_) rfl (by kernel_rfl) (by kernel_rfl) (by kernel_rfl) (fun _ _ _ h => h) (Or.inl ⟨by kernel_rfl, ?_⟩) (by assumption) ?_; rotate_left; (focus ((try simp only [List.getElem_toArray, List.getElem_cons_zero, List.getElem_cons_succ]); intro w hSw; (try dsimp only at hSw); go_simp; all_goals (with_reducible rfl))); (try simp only [List.getElem_toArray, List.getElem_cons_zero, List.getElem_cons_succ, Act.put, List.setIfInBounds_toArray, List.set_cons_zero, List.set_cons_succ])))
                  ((refine wpAnyH_take (i := 9) (v := undef) rfl (by kernel_rfl) (by kernel_rfl) (by kernel_rfl) (fun _ _ _ h => h) (Or.inr ⟨by kernel_rfl, rfl⟩) (by assumption) ?_; (try simp only [List.getElem_toArray, List.getElem_cons_zero, List.getElem_cons_succ, Act.put, List.setIfInBounds_toArray, List.set_cons_zero, List.set_cons_succ])); (refine wpAnyH_take (i := 10) (v := undef) rfl (by kernel_rfl) (by kernel_rfl) (by kernel_rfl) (fun _ _ _ h => h) (Or.inr ⟨by kernel_rfl, rfl⟩) (by assumption) ?_; (try simp only [List.getElem_toArray, List.getElem_cons_zero, List.getElem_cons_succ, Act.put, List.setIfInBounds_toArray, List.set_cons_zero, List.set_cons_succ])))
                  ((refine wpAnyH_take (i := 11) (v := ?_) rfl (by kernel_rfl) (by kernel_rfl) (by kernel_rfl) (fun _ _ _ h => h) (Or.inl ⟨by kernel_rfl, ?_⟩) (by assumption) ?_; rotate_left; (focus ((try simp only [List.getElem_toArray, List.getElem_cons_zero, List.getElem_cons_succ]); intro w hSw; (try dsimp only at hSw); go_simp; all_goals (with_reducible rfl))); (try simp only [List.getElem_toArray, List.getElem_cons_zero, List.getElem_cons_succ, Act.put, List.setIfInBounds_toArray, List.set_cons_zero, List.set_cons_succ])))
                  (refine wpAnyH_done (by kernel_rfl) ?_ _)
                  have b5 : Below w3.heap.size w3 w5 := below_step hbz (by go_split_ands; assumption)
                  go_wp2
                  go_roundw
                  case rel => exact ⟨k + 1, by omega, by go_num, .inl ⟨rfl, fun j hj => by rcases Nat.lt_succ_iff_lt_or_eq.1 hj with h | rfl; exact HN.out j h; exact HQ.out⟩, b5⟩
                  case measure => simp [intOf]; omega
                · have HF := Lib.hid (And.intro hf1 hf2)
                  clear hf1 hf2
                  refine wp_region_held_drew (S := (fun w' => w'.cell? ⟨w.heap.size, 0, none⟩ = some (.slice A2 n2 c2) ∧ w'.cell? ⟨wo.heap.size, 1, none⟩ = some (.int .i64 x.1) ∧ w'.cell? ⟨wo.heap.size, 2, none⟩ = some (.int .i64 x.2) ∧ w'.cell? ⟨wr.heap.size, 0, none⟩ = some (.int .i64 yk) ∧ w'.cell? ⟨wr.heap.size, 1, none⟩ = some (.int .i64 yt) ∧ Below W4.heap.size W4 w')) (by kernel_rfl) ⟨v2, v0, v1, z0, z1, (Below.refl _ _).drew⟩ (fun hHeld => ?_)
                  ((refine wpAnyH_take (i := 0) (v := ?_) rfl (by kernel_rfl) (by kernel_rfl) (by kernel_rfl) (fun _ _ _ h => h) (Or.inl ⟨by kernel_rfl, ?_⟩) (by assumption) ?_; rotate_left; (focus ((try simp only [List.getElem_toArray, List.getElem_cons_zero, List.getElem_cons_succ]); intro w hSw; (try dsimp only at hSw); go_simp; all_goals (with_reducible rfl))); (try simp only [List.getElem_toArray, List.getElem_cons_zero, List.getElem_cons_succ, Act.put, List.setIfInBounds_toArray, List.set_cons_zero, List.set_cons_succ])); (refine wpAnyH_take (i := 1) (v := ?_) rfl (by kernel_rfl) (by kernel_rfl) (by kernel_rfl) (fun _ _ _ h => h) (Or.inl ⟨by kernel_rfl, ?_⟩) (by assumption) ?_; rotate_left; (focus ((try simp only [List.getElem_toArray, List.getElem_cons_zero, List.getElem_cons_succ]); intro w hSw; (try dsimp only at hSw); go_simp; all_goals (with_reducible rfl))); (try simp only [List.getElem_toArray, List.getElem_cons_zero, List.getElem_cons_succ, Act.put, List.setIfInBounds_toArray, List.set_cons_zero, List.set_cons_succ])); (refine wpAnyH_take (i := 3) (v := ?_) rfl (by kernel_rfl) (by kernel_rfl) (by kernel_rfl) (fun _ _ _ h => h) (Or.inl ⟨by kernel_rfl, ?_⟩) (by assumption) ?_; rotate_left; (focus ((try simp only [List.getElem_toArray, List.getElem_cons_zero, List.getElem_cons_succ]); intro w hSw; (try dsimp only at hSw); go_simp; all_goals (with_reducible rfl))); (try simp only [List.getElem_toArray, List.getElem_cons_zero, List.getElem_cons_succ, Act.put, List.setIfInBounds_toArray, List.set_cons_zero, List.set_cons_succ])); (refine wpAnyH_take (i := 4) (v := ?_) rfl (by kernel_rfl) (by kernel_rfl) (by kernel_rfl) (fun _ _ _ h => h) (Or.inl ⟨by kernel_rfl, ?_⟩) (by assumption) ?_; rotate_left; (focus ((try simp only [List.getElem_toArray, List.getElem_cons_zero, List.getElem_cons_succ]); intro w hSw; (try dsimp only at hSw); go_simp; all_goals (with_reducible rfl))); (try simp only [List.getElem_toArray, List.getElem_cons_zero, List.getElem_cons_succ, Act.put, List.setIfInBounds_toArray, List.set_cons_zero, List.set_cons_succ])); (refine wpAnyH_take (i := 5) (v := ?_) rfl (by kernel_rfl) (by kernel_rfl) (by kernel_rfl) (fun _ _ _ h => h) (Or.inl ⟨by kernel_rfl, ?_⟩) (by assumption) ?_; rotate_left; (focus ((try simp only [List.getElem_toArray, List.getElem_cons_zero, List.getElem_cons_succ]); intro w hSw; (try dsimp only at hSw); go_simp; all_goals (with_reducible rfl))); (try simp only [List.getElem_toArray, List.getElem_cons_zero, List.getElem_cons_succ, Act.put, List.setIfInBounds_toArray, List.set_cons_zero, List.set_cons_succ])))
                  (refine wpAnyH_ready (rs := [2]) (by kernel_rfl) (by simp) ?_; refine AllReadyH.cons rfl (fun K hK => ?_) AllReadyH.nil; (try simp only [List.getElem_toArray, List.getElem_cons_zero, List.getElem_cons_succ]))
                  (go_simp; go_at_call 18; go_split_ands; refine (lrank_any R A2 n2 c2 _ _ _ (rq4.out.on (by assumption))).mono ?_; rintro e w5 ⟨rfl, hbc'⟩; have hbc := nx hbc'; clear hbc'; go_wp2_with fail)
                  (refine hK.out _ _ (by first | (go_split_ands; exact ⟨nx_cell hbc (by assumption), nx_cell hbc (by assumption), nx_cell hbc (by assumption), nx_cell hbc (by assumption), nx_cell hbc (by assumption), nx_step (by assumption) hbc⟩) | (dsimp only; go_split_ands; exact ⟨nx_cell hbc (by assumption), nx_cell hbc (by assumption), nx_cell hbc (by assumption), nx_cell hbc (by assumption), nx_cell hbc (by assumption), nx_step (by assumption) hbc⟩)) (fun hHeld => ?_); clear hK K; (try simp only [List.getElem_toArray, List.getElem_cons_zero, List.getElem_cons_succ, Act.put, List.setIfInBounds_toArray, List.set_cons_zero, List.set_cons_succ]))
                  (refine wpAnyH_ready (rs := [6]) (by kernel_rfl) (by simp) ?_; refine AllReadyH.cons rfl (fun K hK => ?_) AllReadyH.nil; (try simp only [List.getElem_toArray, List.getElem_cons_zero, List.getElem_cons_succ]))
                  (go_simp; go_at_call 18; go_split_ands; refine (lrank_any R A2 n2 c2 _ _ _ (rq4.out.on (by assumption))).mono ?_; rintro e w5 ⟨rfl, hbc'⟩; have hbc := nx hbc'; clear hbc'; go_wp2_with fail)
                  (refine hK.out _ _ (by first | (go_split_ands; exact ⟨nx_cell hbc (by assumption), nx_cell hbc (by assumption), nx_cell hbc (by assumption), nx_cell hbc (by assumption), nx_cell hbc (by assumption), nx_step (by assumption) hbc⟩) | (dsimp only; go_split_ands; exact ⟨nx_cell hbc (by assumption), nx_cell hbc (by assumption), nx_cell hbc (by assumption), nx_cell hbc (by assumption), nx_cell hbc (by assumption), nx_step (by assumption) hbc⟩)) (fun hHeld => ?_); clear hK K; (try simp only [List.getElem_toArray, List.getElem_cons_zero, List.getElem_cons_succ, Act.put, List.setIfInBounds_toArray, List.set_cons_zero, List.set_cons_succ]))
                  ((refine wpAnyH_take (i := 7) (v := ?_) rfl (by kernel_rfl) (by kernel_rfl) (by kernel_rfl) (fun _ _ _ h => h) (Or.inl ⟨by kernel_rfl, ?_⟩) (by assumption) ?_; rotate_left; (focus ((try simp only [List.getElem_toArray, List.getElem_cons_zero, List.getElem_cons_succ]); intro w hSw; (try dsimp only at hSw); go_simp; all_goals (with_reducible rfl))); (try simp only [List.getElem_toArray, List.getElem_cons_zero, List.getElem_cons_succ, Act.put, List.setIfInBounds_toArray, List.set_cons_zero, List.set_cons_succ])); (refine wpAnyH_take (i := 8) (v := ?_) rfl (by kernel_rfl) (by kernel_rfl) (by kernel_rfl) (fun _ _ _ h => h) (Or.inl ⟨by kernel_rfl, ?_⟩) (by assumption) ?_; rotate_left; (focus ((try simp only [List.getElem_toArray, List.getElem_cons_zero, List.getElem_cons_succ]); intro w hSw; (try dsimp only at hSw); go_simp; all_goals (with_reducible rfl))); (try simp only [List.getElem_toArray, List.getElem_cons_zero, List.getElem_cons_succ, Act.put, List.setIfInBounds_toArray, List.set_cons_zero, List.set_cons_succ])))
                  ((refine wpAnyH_take (i := 9) (v := undef) rfl (by kernel_rfl) (by kernel_rfl) (by kernel_rfl) (fun _ _ _ h => h) (Or.inr ⟨by kernel_rfl, rfl⟩) (by assumption) ?_; (try simp only [List.getElem_toArray, List.getElem_cons_zero, List.getElem_cons_succ, Act.put, List.setIfInBounds_toArray, List.set_cons_zero, List.set_cons_succ])); (refine wpAnyH_take (i := 10) (v := undef) rfl (by kernel_rfl) (by kernel_rfl) (by kernel_rfl) (fun _ _ _ h => h) (Or.inr ⟨by kernel_rfl, rfl⟩) (by assumption) ?_; (try simp only [List.getElem_toArray, List.getElem_cons_zero, List.getElem_cons_succ, Act.put, List.setIfInBounds_toArray, List.set_cons_zero, List.set_cons_succ])))
                  ((refine wpAnyH_take (i := 11) (v := ?_) rfl (by kernel_rfl) (by kernel_rfl) (by kernel_rfl) (fun _ _ _ h => h) (Or.inl ⟨by kernel_rfl, ?_⟩) (by assumption) ?_; rotate_left; (focus ((try simp only [List.getElem_toArray, List.getElem_cons_zero, List.getElem_cons_succ]); intro w hSw; (try dsimp only at hSw); go_simp; all_goals (with_reducible rfl))); (try simp only [List.getElem_toArray, List.getElem_cons_zero, List.getElem_cons_succ, Act.put, List.setIfInBounds_toArray, List.set_cons_zero, List.set_cons_succ])))
                  (refine wpAnyH_done (by kernel_rfl) ?_ _)
                  have b5 : Below w3.heap.size w3 w5 := below_step hbz (by go_split_ands; assumption)
                  go_wp2
                  go_roundw
                  case rel => exact ⟨k + 1, by omega, by go_num, .inr ⟨f, rfl, by omega, HF.out.1, HF.out.2⟩, b5⟩
                  case measure => simp [intOf]; omega
            · obtain rfl : k = M.length := by omega
              rcases hfst with ⟨rfl, hno⟩ | ⟨f, rfl, hfk, hf1, hf2⟩
              · clear hno
                have b5 := below_step b3 hbel2
                have HB5 := Lib.hid (HB3.out.on hbel2)
                go_wp2_with (first | (go_at_call 15; refine (inside_yes _ _ _ (by omega) (by omega)).mono ?_; rintro e w4 ⟨rfl, rfl⟩) | fail)
                go_roundw
                case rel => exact ⟨i + 1, A, B, ca, cb, M, by omega, by omega, by go_num, rfl, rfl, HB5, b5⟩
                case measure => simp [intOf]; omega
              · exfalso
                have := eqs_some hfk hf1
                rw [← eqs_perm, ← HM.out, HQ0.out] at this
                omega
        · have HQ0 := Lib.hid hq0
          rw [show decide (0 < eqs R m x.1) = true by rw [decide_eq_true_eq]; exact hq0]
          have hrl : r < M.length := by omega
          clear hq0 hle
          go_wp2_with fail
          go_loopw [12, 54] (fun v s wr => ∃ k : Nat, k ≤ M.length ∧ s = .int .i64 k ∧ FstEq R M (rk R x.1) k v ∧ Below w3.heap.size w3 wr) (fun _ s _ => M.length - (intOf s).toNat)
          case atStart => exact ⟨0, Nat.zero_le _, rfl, .inl ⟨rfl, fun j hj => absurd hj (by omega)⟩, Below.refl _ _⟩
          case round =>
            obtain ⟨k, hk, rfl, hfst, hbel2⟩ := hrel
            by_cases hlk : k < M.length
            · obtain ⟨bl, ol, rfl, _, hg1, hg2⟩ := rdI_at (k := k) (rl.out.on hbel2) hlk
              obtain ⟨⟨yk, yt⟩, hy⟩ : ∃ y, y = it M k := ⟨_, rfl⟩
              rw [← hy] at hg1 hg2
              have HY := Lib.hid hy
              clear hy
              have hbz := hbel2.alloc hbel2.size (.cells #[.int .i64 yk, .int .i64 yt] 28)
              have v2 := cell_on hbz f2
              have v0 := cell_on hbz u1
              have v1 := cell_on hbz u2
              have z0 : (wr.alloc (.cells #[.int .i64 yk, .int .i64 yt] 28)).cell? ⟨wr.heap.size, 0, none⟩ = some (.int .i64 yk) := by simp [go_sem]
              have z1 : (wr.alloc (.cells #[.int .i64 yk, .int .i64 yt] 28)).cell? ⟨wr.heap.size, 1, none⟩ = some (.int .i64 yt) := by simp [go_sem]
              have rq4 := Lib.hid (rq3.out.on hbz)
              go_wp2_with fail
              generalize wr.alloc (.cells #[.int .i64 yk, .int .i64 yt] 28) = W4 at hbz v2 v0 v1 z0 z1 rq4 ⊢
              by_cases hq : rk R yk = rk R x.1
              · have hv : (rk R yk == rk R x.1) = true := by rw [beq_iff_eq]; exact hq
                have HQ : Hid (rk R (it M k).1 = rk R x.1) := by unfold Hid; rw [← HY.out]; exact hq
                clear hq
                rcases hfst with ⟨rfl, hno⟩ | ⟨f, rfl, hfk, hf1, hf2⟩
                · have HN := Lib.hid hno
                  clear hno
                  refine wp_region_held_drew (S := (fun w' => w'.cell? ⟨w.heap.size, 0, none⟩ = some (.slice A2 n2 c2) ∧ w'.cell? ⟨wo.heap.size, 1, none⟩ = some (.int .i64 x.1) ∧ w'.cell? ⟨wo.heap.size, 2, none⟩ = some (.int .i64 x.2) ∧ w'.cell? ⟨wr.heap.size, 0, none⟩ = some (.int .i64 yk) ∧ w'.cell? ⟨wr.heap.size, 1, none⟩ = some (.int .i64 yt) ∧ Below W4.heap.size W4 w')) (by kernel_rfl) ⟨v2, v0, v1, z0, z1, (Below.refl _ _).drew⟩ (fun hHeld => ?_)
                  ((refine wpAnyH_take (i := 0) (v := ?_) rfl (by kernel_rfl) (by kernel_rfl) (by kernel_rfl) (fun _ _ _ h => h) (Or.inl ⟨by kernel_rfl, ?_⟩) (by assumption) ?_; rotate_left; (focus ((try simp only [List.getElem_toArray, List.getElem_cons_zero, List.getElem_cons_succ]); intro w hSw; (try dsimp only at hSw); go_simp; all_goals (with_reducible rfl))); (try simp only [List.getElem_toArray, List.getElem_cons_zero, List.getElem_cons_succ, Act.put, List.setIfInBounds_toArray, List.set_cons_zero, List.set_cons_succ])); (refine wpAnyH_take (i := 1) (v := ?_) rfl (by kernel_rfl) (by kernel_rfl) (by kernel_rfl) (fun _ _ _ h => h) (Or.inl ⟨by kernel_rfl, ?_⟩) (by assumption) ?_; rotate_left; (focus ((try simp only [List.getElem_toArray, List.getElem_cons_zero, List.getElem_cons_succ]); intro w hSw; (try dsimp only at hSw); go_simp; all_goals (with_reducible rfl))); (try simp only [List.getElem_toArray, List.getElem_cons_zero, List.getElem_cons_succ, Act.put, List.setIfInBounds_toArray, List.set_cons_zero, List.set_cons_succ])); (refine wpAnyH_take (i := 3) (v := ?_) rfl (by kernel_rfl) (by kernel_rfl) (by kernel_rfl) (fun _ _ _ h => h) (Or.inl ⟨by kernel_rfl, ?_⟩) (by assumption) ?_; rotate_left; (focus ((try simp only [List.getElem_toArray, List.getElem_cons_zero, List.getElem_cons_succ]); intro w hSw; (try dsimp only at hSw); go_simp; all_goals (with_reducible rfl))); (try simp only [List.getElem_toArray, List.getElem_cons_zero, List.getElem_cons_succ, Act.put, List.setIfInBounds_toArray, List.set_cons_zero, List.set_cons_succ])); (refine wpAnyH_take (i := 4) (v := ?_) rfl (by kernel_rfl) (by kernel_rfl) (by kernel_rfl) (fun _ _ _ h => h) (Or.inl ⟨by kernel_rfl, ?_⟩) (by assumption) ?_; rotate_left; (focus ((try simp only [List.getElem_toArray, List.getElem_cons_zero, List.getElem_cons_succ]); intro w hSw; (try dsimp only at hSw); go_simp; all_goals (with_reducible rfl))); (try simp only [List.getElem_toArray, List.getElem_cons_zero, List.getElem_cons_succ, Act.put, List.setIfInBounds_toArray, List.set_cons_zero, List.set_cons_succ])); (refine wpAnyH_take (i := 5) (v := ?_) rfl (by kernel_rfl) (by kernel_rfl) (by kernel_rfl) (fun _ _ _ h => h) (Or.inl ⟨by kernel_rfl, ?_⟩) (by assumption) ?_; rotate_left; (focus ((try simp only [List.getElem_toArray, List.getElem_cons_zero, List.getElem_cons_succ]); intro w hSw; (try dsimp only at hSw); go_simp; all_goals (with_reducible rfl))); (try simp only [List.getElem_toArray, List.getElem_cons_zero, List.getElem_cons_succ, Act.put, List.setIfInBounds_toArray, List.set_cons_zero, List.set_cons_succ])))
                  (refine wpAnyH_ready (rs := [2]) (by kernel_rfl) (by simp) ?_; refine AllReadyH.cons rfl (fun K hK => ?_) AllReadyH.nil; (try simp only [List.getElem_toArray, List.getElem_cons_zero, List.getElem_cons_succ]))
                  (go_simp; go_at_call 18; go_split_ands; refine (lrank_any R A2 n2 c2 _ _ _ (rq4.out.on (by assumption))).mono ?_; rintro e w5 ⟨rfl, hbc'⟩; have hbc := nx hbc'; clear hbc'; go_wp2_with fail)
                  (refine hK.out _ _ (by first | (go_split_ands; exact ⟨nx_cell hbc (by assumption), nx_cell hbc (by assumption), nx_cell hbc (by assumption), nx_cell hbc (by assumption), nx_cell hbc (by assumption), nx_step (by assumption) hbc⟩) | (dsimp only; go_split_ands; exact ⟨nx_cell hbc (by assumption), nx_cell hbc (by assumption), nx_cell hbc (by assumption), nx_cell hbc (by assumption), nx_cell hbc (by assumption), nx_step (by assumption) hbc⟩)) (fun hHeld => ?_); clear hK K; (try simp only [List.getElem_toArray, List.getElem_cons_zero, List.getElem_cons_succ, Act.put, List.setIfInBounds_toArray, List.set_cons_zero, List.set_cons_succ]))
                  (refine wpAnyH_ready (rs := [6]) (by kernel_rfl) (by simp) ?_; refine AllReadyH.cons rfl (fun K hK => ?_) AllReadyH.nil; (try simp only [List.getElem_toArray, List.getElem_cons_zero, List.getElem_cons_succ]))
                  (go_simp; go_at_call 18; go_split_ands; refine (lrank_any R A2 n2 c2 _ _ _ (rq4.out.on (by assumption))).mono ?_; rintro e w5 ⟨rfl, hbc'⟩; have hbc := nx hbc'; clear hbc'; go_wp2_with fail)
                  (refine hK.out _ _ (by first | (go_split_ands; exact ⟨nx_cell hbc (by assumption), nx_cell hbc (by assumption), nx_cell hbc (by assumption), nx_cell hbc (by assumption), nx_cell hbc (by assumption), nx_step (by assumption) hbc⟩) | (dsimp only; go_split_ands; exact ⟨nx_cell hbc (by assumption), nx_cell hbc (by assumption), nx_cell hbc (by assumption), nx_cell hbc (by assumption), nx_cell hbc (by assumption), nx_step (by assumption) hbc⟩)) (fun hHeld => ?_); clear hK K; (try simp only [List.getElem_toArray, List.getElem_cons_zero, List.getElem_cons_succ, Act.put, List.setIfInBounds_toArray, List.set_cons_zero, List.set_cons_succ]))
                  ((refine wpAnyH_take (i := 7) (v := ?_) rfl (by kernel_rfl) (by kernel_rfl) (by kernel_rfl) (fun _ _ _ h => h) (Or.inl ⟨by kernel_rfl, ?_⟩) (by assumption) ?_; rotate_left; (focus ((try simp only [List.getElem_toArray, List.getElem_cons_zero, List.getElem_cons_succ]); intro w hSw; (try dsimp only at hSw); go_simp; all_goals (with_reducible rfl))); (try simp only [List.getElem_toArray, List.getElem_cons_zero, List.getElem_cons_succ, Act.put, List.setIfInBounds_toArray, List.set_cons_zero, List.set_cons_succ])); (refine wpAnyH_take (i := 8) (v := ?_) rfl (by kernel_rfl) (by kernel_rfl) (by kernel_rfl) (fun _ _ _ h => h) (Or.inl ⟨by kernel_rfl, ?_⟩) (by assumption) ?_; rotate_left; (focus ((try simp only [List.getElem_toArray, List.getElem_cons_zero, List.getElem_cons_succ]); intro w hSw; (try dsimp only at hSw); go_simp; all_goals (with_reducible rfl))); (try simp only [List.getElem_toArray, List.getElem_cons_zero, List.getElem_cons_succ, Act.put, List.setIfInBounds_toArray, List.set_cons_zero, List.set_cons_succ])))
                  ((refine wpAnyH_take (i := 9) (v := ?_) rfl (by kernel_rfl) (by kernel_rfl) (by kernel_rfl) (fun _ _ _ h => h) (Or.inl ⟨by kernel_rfl, ?_⟩) (by assumption) ?_; rotate_left; (focus ((try simp only [List.getElem_toArray, List.getElem_cons_zero, List.getElem_cons_succ]); intro w hSw; (try dsimp only at hSw); go_simp; all_goals (with_reducible rfl))); (try simp only [List.getElem_toArray, List.getElem_cons_zero, List.getElem_cons_succ, Act.put, List.setIfInBounds_toArray, List.set_cons_zero, List.set_cons_succ])); (refine wpAnyH_take (i := 10) (v := ?_) rfl (by kernel_rfl) (by kernel_rfl) (by kernel_rfl) (fun _ _ _ h => h) (Or.inl ⟨by kernel_rfl, ?_⟩) (by assumption) ?_; rotate_left; (focus ((try simp only [List.getElem_toArray, List.getElem_cons_zero, List.getElem_cons_succ]); intro w hSw; (try dsimp only at hSw); go_simp; all_goals (with_reducible rfl))); (try simp only [List.getElem_toArray, List.getElem_cons_zero, List.getElem_cons_succ, Act.put, List.setIfInBounds_toArray, List.set_cons_zero, List.set_cons_succ])); (refine wpAnyH_take (i := 11) (v := ?_) rfl (by kernel_rfl) (by kernel_rfl) (by kernel_rfl) (fun _ _ _ h => h) (Or.inl ⟨by kernel_rfl, ?_⟩) (by assumption) ?_; rotate_left; (focus ((try simp only [List.getElem_toArray, List.getElem_cons_zero, List.getElem_cons_succ]); intro w hSw; (try dsimp only at hSw); go_simp; all_goals (with_reducible rfl))); (try simp only [List.getElem_toArray, List.getElem_cons_zero, List.getElem_cons_succ, Act.put, List.setIfInBounds_toArray, List.set_cons_zero, List.set_cons_succ])))
                  (refine wpAnyH_done (by kernel_rfl) ?_ _)
                  have b5 : Below w3.heap.size w3 w5 := below_step hbz (by go_split_ands; assumption)
                  go_wp2
                  go_roundw
                  case rel => exact ⟨k + 1, by omega, by go_num, .inr ⟨k, rfl, by omega, HQ.out, HN.out⟩, b5⟩
                  case measure => simp [intOf]; omega
                · have HF := Lib.hid (And.intro hf1 hf2)
                  have hf0 : decide ((f : Int) < 0) = false := by simp
                  clear hf1 hf2
                  refine wp_region_held_drew (S := (fun w' => w'.cell? ⟨w.heap.size, 0, none⟩ = some (.slice A2 n2 c2) ∧ w'.cell? ⟨wo.heap.size, 1, none⟩ = some (.int .i64 x.1) ∧ w'.cell? ⟨wo.heap.size, 2, none⟩ = some (.int .i64 x.2) ∧ w'.cell? ⟨wr.heap.size, 0, none⟩ = some (.int .i64 yk) ∧ w'.cell? ⟨wr.heap.size, 1, none⟩ = some (.int .i64 yt) ∧ Below W4.heap.size W4 w')) (by kernel_rfl) ⟨v2, v0, v1, z0, z1, (Below.refl _ _).drew⟩ (fun hHeld => ?_)
                  ((refine wpAnyH_take (i := 0) (v := ?_) rfl (by kernel_rfl) (by kernel_rfl) (by kernel_rfl) (fun _ _ _ h => h) (Or.inl ⟨by kernel_rfl, ?_⟩) (by assumption) ?_; rotate_left; (focus ((try simp only [List.getElem_toArray, List.getElem_cons_zero, List.getElem_cons_succ]); intro w hSw; (try dsimp only at hSw); go_simp; all_goals (with_reducible rfl))); (try simp only [List.getElem_toArray, List.getElem_cons_zero, List.getElem_cons_succ, Act.put, List.setIfInBounds_toArray, List.set_cons_zero, List.set_cons_succ])); (refine wpAnyH_take (i := 1) (v := ?_) rfl (by kernel_rfl) (by kernel_rfl) (by kernel_rfl) (fun _ _ _ h => h) (Or.inl ⟨by kernel_rfl, ?_⟩) (by assumption) ?_; rotate_left; (focus ((try simp only [List.getElem_toArray, List.getElem_cons_zero, List.getElem_cons_succ]); intro w hSw; (try dsimp only at hSw); go_simp; all_goals (with_reducible rfl))); (try simp only [List.getElem_toArray, List.getElem_cons_zero, List.getElem_cons_succ, Act.put, List.setIfInBounds_toArray, List.set_cons_zero, List.set_cons_succ])); (refine wpAnyH_take (i := 3) (v := ?_) rfl (by kernel_rfl) (by kernel_rfl) (by kernel_rfl) (fun _ _ _ h => h) (Or.inl ⟨by kernel_rfl, ?_⟩) (by assumption) ?_; rotate_left; (focus ((try simp only [List.getElem_toArray, List.getElem_cons_zero, List.getElem_cons_succ]); intro w hSw; (try dsimp only at hSw); go_simp; all_goals (with_reducible rfl))); (try simp only [List.getElem_toArray, List.getElem_cons_zero, List.getElem_cons_succ, Act.put, List.setIfInBounds_toArray, List.set_cons_zero, List.set_cons_succ])); (refine wpAnyH_take (i := 4) (v := ?_) rfl (by kernel_rfl) (by kernel_rfl) (by kernel_rfl) (fun _ _ _ h => h) (Or.inl ⟨by kernel_rfl, ?_⟩) (by assumption) ?_; rotate_left; (focus ((try simp only [List.getElem_toArray, List.getElem_cons_zero, List.getElem_cons_succ]); intro w hSw; (try dsimp only at hSw); go_simp; all_goals (with_reducible rfl))); (try simp only [List.getElem_toArray, List.getElem_cons_zero, List.getElem_cons_succ, Act.put, List.setIfInBounds_toArray, List.set_cons_zero, List.set_cons_succ])); (refine wpAnyH_take (i := 5) (v := ?_) rfl (by kernel_rfl) (by kernel_rfl) (by kernel_rfl) (fun _ _ _ h => h) (Or.inl ⟨by kernel_rfl, ?_⟩) (by assumption) ?_; rotate_left; (focus ((try simp only [List.getElem_toArray, List.getElem_cons_zero, List.getElem_cons_succ]); intro w hSw; (try dsimp only at hSw); go_simp; all_goals (with_reducible rfl))); (try simp only [List.getElem_toArray, List.getElem_cons_zero, List.getElem_cons_succ, Act.put, List.setIfInBounds_toArray, List.set_cons_zero, List.set_cons_succ])))
                  (refine wpAnyH_ready (rs := [2]) (by kernel_rfl) (by simp) ?_; refine AllReadyH.cons rfl (fun K hK => ?_) AllReadyH.nil; (try simp only [List.getElem_toArray, List.getElem_cons_zero, List.getElem_cons_succ]))
                  (go_simp; go_at_call 18; go_split_ands; refine (lrank_any R A2 n2 c2 _ _ _ (rq4.out.on (by assumption))).mono ?_; rintro e w5 ⟨rfl, hbc'⟩; have hbc := nx hbc'; clear hbc'; go_wp2_with fail)
                  (refine hK.out _ _ (by first | (go_split_ands; exact ⟨nx_cell hbc (by assumption), nx_cell hbc (by assumption), nx_cell hbc (by assumption), nx_cell hbc (by assumption), nx_cell hbc (by assumption), nx_step (by assumption) hbc⟩) | (dsimp only; go_split_ands; exact ⟨nx_cell hbc (by assumption), nx_cell hbc (by assumption), nx_cell hbc (by assumption), nx_cell hbc (by assumption), nx_cell hbc (by assumption), nx_step (by assumption) hbc⟩)) (fun hHeld => ?_); clear hK K; (try simp only [List.getElem_toArray, List.getElem_cons_zero, List.getElem_cons_succ, Act.put, List.setIfInBounds_toArray, List.set_cons_zero, List.set_cons_succ]))
                  (refine wpAnyH_ready (rs := [6]) (by kernel_rfl) (by simp) ?_; refine AllReadyH.cons rfl (fun K hK => ?_) AllReadyH.nil; (try simp only [List.getElem_toArray, List.getElem_cons_zero, List.getElem_cons_succ]))
                  (go_simp; go_at_call 18; go_split_ands; refine (lrank_any R A2 n2 c2 _ _ _ (rq4.out.on (by assumption))).mono ?_; rintro e w5 ⟨rfl, hbc'⟩; have hbc := nx hbc'; clear hbc'; go_wp2_with fail)
                  (refine hK.out _ _ (by first | (go_split_ands; exact ⟨nx_cell hbc (by assumption), nx_cell hbc (by assumption), nx_cell hbc (by assumption), nx_cell hbc (by assumption), nx_cell hbc (by assumption), nx_step (by assumption) hbc⟩) | (dsimp only; go_split_ands; exact ⟨nx_cell hbc (by assumption), nx_cell hbc (by assumption), nx_cell hbc (by assumption), nx_cell hbc (by assumption), nx_cell hbc (by assumption), nx_step (by assumption) hbc⟩)) (fun hHeld => ?_); clear hK K; (try simp only [List.getElem_toArray, List.getElem_cons_zero, List.getElem_cons_succ, Act.put, List.setIfInBounds_toArray, List.set_cons_zero, List.set_cons_succ]))
                  ((refine wpAnyH_take (i := 7) (v := ?_) rfl (by kernel_rfl) (by kernel_rfl) (by kernel_rfl) (fun _ _ _ h => h) (Or.inl ⟨by kernel_rfl, ?_⟩) (by assumption) ?_; rotate_left; (focus ((try simp only [List.getElem_toArray, List.getElem_cons_zero, List.getElem_cons_succ]); intro w hSw; (try dsimp only at hSw); go_simp; all_goals (with_reducible rfl))); (try simp only [List.getElem_toArray, List.getElem_cons_zero, List.getElem_cons_succ, Act.put, List.setIfInBounds_toArray, List.set_cons_zero, List.set_cons_succ])); (refine wpAnyH_take (i := 8) (v := ?_) rfl (by kernel_rfl) (by kernel_rfl) (by kernel_rfl) (fun _ _ _ h => h) (Or.inl ⟨by kernel_rfl, ?_⟩) (by assumption) ?_; rotate_left; (focus ((try simp only [List.getElem_toArray, List.getElem_cons_zero, List.getElem_cons_succ]); intro w hSw; (try dsimp only at hSw); go_simp; all_goals (with_reducible rfl))); (try simp only [List.getElem_toArray, List.getElem_cons_zero, List.getElem_cons_succ, Act.put, List.setIfInBounds_toArray, List.set_cons_zero, List.set_cons_succ])))
                  ((refine wpAnyH_take (i := 9) (v := ?_) rfl (by kernel_rfl) (by kernel_rfl) (by kernel_rfl) (fun _ _ _ h => h) (Or.inl ⟨by kernel_rfl, ?_⟩) (by assumption) ?_; rotate_left; (focus ((try simp only [List.getElem_toArray, List.getElem_cons_zero, List.getElem_cons_succ]); intro w hSw; (try dsimp only at hSw); go_simp; all_goals (with_reducible rfl))); (try simp only [List.getElem_toArray, List.getElem_cons_zero, List.getElem_cons_succ, Act.put, List.setIfInBounds_toArray, List.set_cons_zero, List.set_cons_succ])); (refine wpAnyH_take (i := 10) (v := ?_) rfl (by kernel_rfl) (by kernel_rfl) (by kernel_rfl) (fun _ _ _ h => h) (Or.inl ⟨by kernel_rfl, ?_⟩) (by assumption) ?_; rotate_left; (focus ((try simp only [List.getElem_toArray, List.getElem_cons_zero, List.getElem_cons_succ]); intro w hSw; (try dsimp only at hSw); go_simp; all_goals (with_reducible rfl))); (try simp only [List.getElem_toArray, List.getElem_cons_zero, List.getElem_cons_succ, Act.put, List.setIfInBounds_toArray, List.set_cons_zero, List.set_cons_succ])); (refine wpAnyH_take (i := 11) (v := ?_) rfl (by kernel_rfl) (by kernel_rfl) (by kernel_rfl) (fun _ _ _ h => h) (Or.inl ⟨by kernel_rfl, ?_⟩) (by assumption) ?_; rotate_left; (focus ((try simp only [List.getElem_toArray, List.getElem_cons_zero, List.getElem_cons_succ]); intro w hSw; (try dsimp only at hSw); go_simp; all_goals (with_reducible rfl))); (try simp only [List.getElem_toArray, List.getElem_cons_zero, List.getElem_cons_succ, Act.put, List.setIfInBounds_toArray, List.set_cons_zero, List.set_cons_succ])))
                  (refine wpAnyH_done (by kernel_rfl) ?_ _)
                  have b5 : Below w3.heap.size w3 w5 := below_step hbz (by go_split_ands; assumption)
                  go_wp2
                  go_roundw
                  case rel => exact ⟨k + 1, by omega, by go_num, .inr ⟨f, rfl, by omega, HF.out.1, HF.out.2⟩, b5⟩
                  case measure => simp [intOf]; omega
              · have hv : (rk R yk == rk R x.1) = false := by rw [beq_eq_false_iff_ne]; exact hq
                have HQ : Hid (rk R (it M k).1 ≠ rk R x.1) := by unfold Hid; rw [← HY.out]; exact hq
                clear hq
                rcases hfst with ⟨rfl, hno⟩ | ⟨f, rfl, hfk, hf1, hf2⟩
                · have HN := Lib.hid hno
                  clear hno
                  refine wp_region_held_drew (S := (fun w' => w'.cell? ⟨w.heap.size, 0, none⟩ = some (.slice A2 n2 c2) ∧ w'.cell? ⟨wo.heap.size, 1, none⟩ = some (.int .i64 x.1) ∧ w'.cell? ⟨wo.heap.size, 2, none⟩ = some (.int .i64 x.2) ∧ w'.cell? ⟨wr.heap.size, 0, none⟩ = some (.int .i64 yk) ∧ w'.cell? ⟨wr.heap.size, 1, none⟩ = some (.int .i64 yt) ∧ Below W4.heap.size W4 w')) (by kernel_rfl) ⟨v2, v0, v1, z0, z1, (Below.refl _ _).drew⟩ (fun hHeld => ?_)
                  ((refine wpAnyH_take (i := 0) (v := ?_) rfl (by kernel_rfl) (by kernel_rfl) (by kernel_rfl) (fun _ _ _ h => h) (Or.inl ⟨by kernel_rfl, ?_⟩) (by assumption) ?_; rotate_left; (focus ((try simp only [List.getElem_toArray, List.getElem_cons_zero, List.getElem_cons_succ]); intro w hSw; (try dsimp only at hSw); go_simp; all_goals (with_reducible rfl))); (try simp only [List.getElem_toArray, List.getElem_cons_zero, List.getElem_cons_succ, Act.put, List.setIfInBounds_toArray, List.set_cons_zero, List.set_cons_succ])); (refine wpAnyH_take (i := 1) (v := ?_) rfl (by kernel_rfl) (by kernel_rfl) (by kernel_rfl) (fun _ _ _ h => h) (Or.inl ⟨by kernel_rfl, ?_⟩) (by assumption) ?_; rotate_left; (focus ((try simp only [List.getElem_toArray, List.getElem_cons_zero, List.getElem_cons_succ]); intro w hSw; (try dsimp only at hSw); go_simp; all_goals (with_reducible rfl))); (try simp only [List.getElem_toArray, List.getElem_cons_zero, List.getElem_cons_succ, Act.put, List.setIfInBounds_toArray, List.set_cons_zero, List.set_cons_succ])); (refine wpAnyH_take (i := 3) (v := ?_) rfl (by kernel_rfl) (by kernel_rfl) (by kernel_rfl) (fun _ _ _ h => h) (Or.inl ⟨by kernel_rfl, ?_⟩) (by assumption) ?_; rotate_left; (focus ((try simp only [List.getElem_toArray, List.getElem_cons_zero, List.getElem_cons_succ]); intro w hSw; (try dsimp only at hSw); go_simp; all_goals (with_reducible rfl))); (try simp only [List.getElem_toArray, List.getElem_cons_zero, List.getElem_cons_succ, Act.put, List.setIfInBounds_toArray, List.set_cons_zero, List.set_cons_succ])); (refine wpAnyH_take (i := 4) (v := ?_) rfl (by kernel_rfl) (by kernel_rfl) (by kernel_rfl) (fun _ _ _ h => h) (Or.inl ⟨by kernel_rfl, ?_⟩) (by assumption) ?_; rotate_left; (focus ((try simp only [List.getElem_toArray, List.getElem_cons_zero, List.getElem_cons_succ]); intro w hSw; (try dsimp only at hSw); go_simp; all_goals (with_reducible rfl))); (try simp only [List.getElem_toArray, List.getElem_cons_zero, List.getElem_cons_succ, Act.put, List.setIfInBounds_toArray, List.set_cons_zero, List.set_cons_succ])); (refine wpAnyH_take (i := 5) (v := ?_) rfl (by kernel_rfl) (by kernel_rfl) (by kernel_rfl) (fun _ _ _ h => h) (Or.inl ⟨by kernel_rfl, ?_⟩) (by assumption) ?_; rotate_left; (focus ((try simp only [List.getElem_toArray, List.getElem_cons_zero, List.getElem_cons_succ]); intro w hSw; (try dsimp only at hSw); go_simp; all_goals (with_reducible rfl))); (try simp only [List.getElem_toArray, List.getElem_cons_zero, List.getElem_cons_succ, Act.put, List.setIfInBounds_toArray, List.set_cons_zero, List.set_cons_succ])))
                  (refine wpAnyH_ready (rs := [2]) (by kernel_rfl) (by simp) ?_; refine AllReadyH.cons rfl (fun K hK => ?_) AllReadyH.nil; (try simp only [List.getElem_toArray, List.getElem_cons_zero, List.getElem_cons_succ]))
                  (go_simp; go_at_call 18; go_split_ands; refine (lrank_any R A2 n2 c2 _ _ _ (rq4.out.on (by assumption))).mono ?_; rintro e w5 ⟨rfl, hbc'⟩; have hbc := nx hbc'; clear hbc'; go_wp2_with fail)
                  (refine hK.out _ _ (by first | (go_split_ands; exact ⟨nx_cell hbc (by assumption), nx_cell hbc (by assumption), nx_cell hbc (by assumption), nx_cell hbc (by assumption), nx_cell hbc (by assumption), nx_step (by assumption) hbc⟩) | (dsimp only; go_split_ands; exact ⟨nx_cell hbc (by assumption), nx_cell hbc (by assumption), nx_cell hbc (by assumption), nx_cell hbc (by assumption), nx_cell hbc (by assumption), nx_step (by assumption) hbc⟩)) (fun hHeld => ?_); clear hK K; (try simp only [List.getElem_toArray, List.getElem_cons_zero, List.getElem_cons_succ, Act.put, List.setIfInBounds_toArray, List.set_cons_zero, List.set_cons_succ]))
                  (refine wpAnyH_ready (rs := [6]) (by kernel_rfl) (by simp) ?_; refine AllReadyH.cons rfl (fun K hK => ?_) AllReadyH.nil; (try simp only [List.getElem_toArray, List.getElem_cons_zero, List.getElem_cons_succ]))
                  (go_simp; go_at_call 18; go_split_ands; refine (lrank_any R A2 n2 c2 _ _ _ (rq4.out.on (by assumption))).mono ?_; rintro e w5 ⟨rfl, hbc'⟩; have hbc := nx hbc'; clear hbc'; go_wp2_with fail)
                  (refine hK.out _ _ (by first | (go_split_ands; exact ⟨nx_cell hbc (by assumption), nx_cell hbc (by assumption), nx_cell hbc (by assumption), nx_cell hbc (by assumption), nx_cell hbc (by assumption), nx_step (by assumption) hbc⟩) | (dsimp only; go_split_ands; exact ⟨nx_cell hbc (by assumption), nx_cell hbc (by assumption), nx_cell hbc (by assumption), nx_cell hbc (by assumption), nx_cell hbc (by assumption), nx_step (by assumption) hbc⟩)) (fun hHeld => ?_); clear hK K; (try simp only [List.getElem_toArray, List.getElem_cons_zero, List.getElem_cons_succ, Act.put, List.setIfInBounds_toArray, List.set_cons_zero, List.set_cons_succ]))
                  ((refine wpAnyH_take (i := 7) (v := ?_) rfl (by kernel_rfl) (by kernel_rfl) (by kernel_rfl) (fun _ _ _ h => h) (Or.inl ⟨by kernel_rfl, ?_⟩) (by assumption) ?_; rotate_left; (focus ((try simp only [List.getElem_toArray, List.getElem_cons_zero, List.getElem_cons_succ]); intro w hSw; (try dsimp only at hSw); go_simp; all_goals (with_reducible rfl))); (try simp only [List.getElem_toArray, List.getElem_cons_zero, List.getElem_cons_succ, Act.put, List.setIfInBounds_toArray, List.set_cons_zero, List.set_cons_succ])); (refine wpAnyH_take (i := 8) (v := ?_) rfl (by kernel_rfl) (by kernel_rfl) (by kernel_rfl) (fun _ _ _ h => h) (Or.inl ⟨by kernel_rfl, ?_⟩) (by assumption) ?_; rotate_left; (focus ((try simp only [List.getElem_toArray, List.getElem_cons_zero, List.getElem_cons_succ]); intro w hSw; (try dsimp only at hSw); go_simp; all_goals (with_reducible rfl))); (try simp only [List.getElem_toArray, List.getElem_cons_zero, List.getElem_cons_succ, Act.put, List.setIfInBounds_toArray, List.set_cons_zero, List.set_cons_succ])))
                  ((refine wpAnyH_take (i := 9) (v := undef) rfl (by kernel_rfl) (by kernel_rfl) (by kernel_rfl) (fun _ _ _ h => h) (Or.inr ⟨by kernel_rfl, rfl⟩) (by assumption) ?_; (try simp only [List.getElem_toArray, List.getElem_cons_zero, List.getElem_cons_succ, Act.put, List.setIfInBounds_toArray, List.set_cons_zero, List.set_cons_succ])); (refine wpAnyH_take (i := 10) (v := undef) rfl (by kernel_rfl) (by kernel_rfl) (by kernel_rfl) (fun _ _ _ h => h) (Or.inr ⟨by kernel_rfl, rfl⟩) (by assumption) ?_; (try simp only [List.getElem_toArray, List.getElem_cons_zero, List.getElem_cons_succ, Act.put, List.setIfInBounds_toArray, List.set_cons_zero, List.set_cons_succ])))
                  ((refine wpAnyH_take (i := 11) (v := ?_) rfl (by kernel_rfl) (by kernel_rfl) (by kernel_rfl) (fun _ _ _ h => h) (Or.inl ⟨by kernel_rfl, ?_⟩) (by assumption) ?_; rotate_left; (focus ((try simp only [List.getElem_toArray, List.getElem_cons_zero, List.getElem_cons_succ]); intro w hSw; (try dsimp only at hSw); go_simp; all_goals (with_reducible rfl))); (try simp only [List.getElem_toArray, List.getElem_cons_zero, List.getElem_cons_succ, Act.put, List.setIfInBounds_toArray, List.set_cons_zero, List.set_cons_succ])))
                  (refine wpAnyH_done (by kernel_rfl) ?_ _)
                  have b5 : Below w3.heap.size w3 w5 := below_step hbz (by go_split_ands; assumption)
                  go_wp2
                  go_roundw
                  case rel => exact ⟨k + 1, by omega, by go_num, .inl ⟨rfl, fun j hj => by rcases Nat.lt_succ_iff_lt_or_eq.1 hj with h | rfl; exact HN.out j h; exact HQ.out⟩, b5⟩
                  case measure => simp [intOf]; omega
                · have HF := Lib.hid (And.intro hf1 hf2)
                  clear hf1 hf2
                  refine wp_region_held_drew (S := (fun w' => w'.cell? ⟨w.heap.size, 0, none⟩ = some (.slice A2 n2 c2) ∧ w'.cell? ⟨wo.heap.size, 1, none⟩ = some (.int .i64 x.1) ∧ w'.cell? ⟨wo.heap.size, 2, none⟩ = some (.int .i64 x.2) ∧ w'.cell? ⟨wr.heap.size, 0, none⟩ = some (.int .i64 yk) ∧ w'.cell? ⟨wr.heap.size, 1, none⟩ = some (.int .i64 yt) ∧ Below W4.heap.size W4 w')) (by kernel_rfl) ⟨v2, v0, v1, z0, z1, (Below.refl _ _).drew⟩ (fun hHeld => ?_)
                  ((refine wpAnyH_take (i := 0) (v := ?_) rfl (by kernel_rfl) (by kernel_rfl) (by kernel_rfl) (fun _ _ _ h => h) (Or.inl ⟨by kernel_rfl, ?_⟩) (by assumption) ?_; rotate_left; (focus ((try simp only [List.getElem_toArray, List.getElem_cons_zero, List.getElem_cons_succ]); intro w hSw; (try dsimp only at hSw); go_simp; all_goals (with_reducible rfl))); (try simp only [List.getElem_toArray, List.getElem_cons_zero, List.getElem_cons_succ, Act.put, List.setIfInBounds_toArray, List.set_cons_zero, List.set_cons_succ])); (refine wpAnyH_take (i := 1) (v := ?_) rfl (by kernel_rfl) (by kernel_rfl) (by kernel_rfl) (fun _ _ _ h => h) (Or.inl ⟨by kernel_rfl, ?_⟩) (by assumption) ?_; rotate_left; (focus ((try simp only [List.getElem_toArray, List.getElem_cons_zero, List.getElem_cons_succ]); intro w hSw; (try dsimp only at hSw); go_simp; all_goals (with_reducible rfl))); (try simp only [List.getElem_toArray, List.getElem_cons_zero, List.getElem_cons_succ, Act.put, List.setIfInBounds_toArray, List.set_cons_zero, List.set_cons_succ])); (refine wpAnyH_take (i := 3) (v := ?_) rfl (by kernel_rfl) (by kernel_rfl) (by kernel_rfl) (fun _ _ _ h => h) (Or.inl ⟨by kernel_rfl, ?_⟩) (by assumption) ?_; rotate_left; (focus ((try simp only [List.getElem_toArray, List.getElem_cons_zero, List.getElem_cons_succ]); intro w hSw; (try dsimp only at hSw); go_simp; all_goals (with_reducible rfl))); (try simp only [List.getElem_toArray, List.getElem_cons_zero, List.getElem_cons_succ, Act.put, List.setIfInBounds_toArray, List.set_cons_zero, List.set_cons_succ])); (refine wpAnyH_take (i := 4) (v := ?_) rfl (by kernel_rfl) (by kernel_rfl) (by kernel_rfl) (fun _ _ _ h => h) (Or.inl ⟨by kernel_rfl, ?_⟩) (by assumption) ?_; rotate_left; (focus ((try simp only [List.getElem_toArray, List.getElem_cons_zero, List.getElem_cons_succ]); intro w hSw; (try dsimp only at hSw); go_simp; all_goals (with_reducible rfl))); (try simp only [List.getElem_toArray, List.getElem_cons_zero, List.getElem_cons_succ, Act.put, List.setIfInBounds_toArray, List.set_cons_zero, List.set_cons_succ])); (refine wpAnyH_take (i := 5) (v := ?_) rfl (by kernel_rfl) (by kernel_rfl) (by kernel_rfl) (fun _ _ _ h => h) (Or.inl ⟨by kernel_rfl, ?_⟩) (by assumption) ?_; rotate_left; (focus ((try simp only [List.getElem_toArray, List.getElem_cons_zero, List.getElem_cons_succ]); intro w hSw; (try dsimp only at hSw); go_simp; all_goals (with_reducible rfl))); (try simp only [List.getElem_toArray, List.getElem_cons_zero, List.getElem_cons_succ, Act.put, List.setIfInBounds_toArray, List.set_cons_zero, List.set_cons_succ])))
                  (refine wpAnyH_ready (rs := [2]) (by kernel_rfl) (by simp) ?_; refine AllReadyH.cons rfl (fun K hK => ?_) AllReadyH.nil; (try simp only [List.getElem_toArray, List.getElem_cons_zero, List.getElem_cons_succ]))
                  (go_simp; go_at_call 18; go_split_ands; refine (lrank_any R A2 n2 c2 _ _ _ (rq4.out.on (by assumption))).mono ?_; rintro e w5 ⟨rfl, hbc'⟩; have hbc := nx hbc'; clear hbc'; go_wp2_with fail)
                  (refine hK.out _ _ (by first | (go_split_ands; exact ⟨nx_cell hbc (by assumption), nx_cell hbc (by assumption), nx_cell hbc (by assumption), nx_cell hbc (by assumption), nx_cell hbc (by assumption), nx_step (by assumption) hbc⟩) | (dsimp only; go_split_ands; exact ⟨nx_cell hbc (by assumption), nx_cell hbc (by assumption), nx_cell hbc (by assumption), nx_cell hbc (by assumption), nx_cell hbc (by assumption), nx_step (by assumption) hbc⟩)) (fun hHeld => ?_); clear hK K; (try simp only [List.getElem_toArray, List.getElem_cons_zero, List.getElem_cons_succ, Act.put, List.setIfInBounds_toArray, List.set_cons_zero, List.set_cons_succ]))
                  (refine wpAnyH_ready (rs := [6]) (by kernel_rfl) (by simp) ?_; refine AllReadyH.cons rfl (fun K hK => ?_) AllReadyH.nil; (try simp only [List.getElem_toArray, List.getElem_cons_zero, List.getElem_cons_succ]))
                  (go_simp; go_at_call 18; go_split_ands; refine (lrank_any R A2 n2 c2 _ _ _ (rq4.out.on (by assumption))).mono ?_; rintro e w5 ⟨rfl, hbc'⟩; have hbc := nx hbc'; clear hbc'; go_wp2_with fail)
                  (refine hK.out _ _ (by first | (go_split_ands; exact ⟨nx_cell hbc (by assumption), nx_cell hbc (by assumption), nx_cell hbc (by assumption), nx_cell hbc (by assumption), nx_cell hbc (by assumption), nx_step (by assumption) hbc⟩) | (dsimp only; go_split_ands; exact ⟨nx_cell hbc (by assumption), nx_cell hbc (by assumption), nx_cell hbc (by assumption), nx_cell hbc (by assumption), nx_cell hbc (by assumption), nx_step (by assumption) hbc⟩)) (fun hHeld => ?_); clear hK K; (try simp only [List.getElem_toArray, List.getElem_cons_zero, List.getElem_cons_succ, Act.put, List.setIfInBounds_toArray, List.set_cons_zero, List.set_cons_succ]))
                  ((refine wpAnyH_take (i := 7) (v := ?_) rfl (by kernel_rfl) (by kernel_rfl) (by kernel_rfl) (fun _ _ _ h => h) (Or.inl ⟨by kernel_rfl, ?_⟩) (by assumption) ?_; rotate_left; (focus ((try simp only [List.getElem_toArray, List.getElem_cons_zero, List.getElem_cons_succ]); intro w hSw; (try dsimp only at hSw); go_simp; all_goals (with_reducible rfl))); (try simp only [List.getElem_toArray, List.getElem_cons_zero, List.getElem_cons_succ, Act.put, List.setIfInBounds_toArray, List.set_cons_zero, List.set_cons_succ])); (refine wpAnyH_take (i := 8) (v := ?_) rfl (by kernel_rfl) (by kernel_rfl) (by kernel_rfl) (fun _ _ _ h => h) (Or.inl ⟨by kernel_rfl, ?_⟩) (by assumption) ?_; rotate_left; (focus ((try simp only [List.getElem_toArray, List.getElem_cons_zero, List.getElem_cons_succ]); intro w hSw; (try dsimp only at hSw); go_simp; all_goals (with_reducible rfl))); (try simp only [List.getElem_toArray, List.getElem_cons_zero, List.getElem_cons_succ, Act.put, List.setIfInBounds_toArray, List.set_cons_zero, List.set_cons_succ])))
                  ((refine wpAnyH_take (i := 9) (v := undef) rfl (by kernel_rfl) (by kernel_rfl) (by kernel_rfl) (fun _ _ _ h => h) (Or.inr ⟨by kernel_rfl, rfl⟩) (by assumption) ?_; (try simp only [List.getElem_toArray, List.getElem_cons_zero, List.getElem_cons_succ, Act.put, List.setIfInBounds_toArray, List.set_cons_zero, List.set_cons_succ])); (refine wpAnyH_take (i := 10) (v := undef) rfl (by kernel_rfl) (by kernel_rfl) (by kernel_rfl) (fun _ _ _ h => h) (Or.inr ⟨by kernel_rfl, rfl⟩) (by assumption) ?_; (try simp only [List.getElem_toArray, List.getElem_cons_zero, List.getElem_cons_succ, Act.put, List.setIfInBounds_toArray, List.set_cons_zero, List.set_cons_succ])))
                  ((refine wpAnyH_take (i := 11) (v := ?_) rfl (by kernel_rfl) (by kernel_rfl) (by kernel_rfl) (fun _ _ _ h => h) (Or.inl ⟨by kernel_rfl, ?_⟩) (by assumption) ?_; rotate_left; (focus ((try simp only [List.getElem_toArray, List.getElem_cons_zero, List.getElem_cons_succ]); intro w hSw; (try dsimp only at hSw); go_simp; all_goals (with_reducible rfl))); (try simp only [List.getElem_toArray, List.getElem_cons_zero, List.getElem_cons_succ, Act.put, List.setIfInBounds_toArray, List.set_cons_zero, List.set_cons_succ])))
                  (refine wpAnyH_done (by kernel_rfl) ?_ _)
                  have b5 : Below w3.heap.size w3 w5 := below_step hbz (by go_split_ands; assumption)
                  go_wp2
                  go_roundw
                  case rel => exact ⟨k + 1, by omega, by go_num, .inr ⟨f, rfl, by omega, HF.out.1, HF.out.2⟩, b5⟩
                  case measure => simp [intOf]; omega
            · obtain rfl : k = M.length := by omega
              rcases hfst with ⟨rfl, hno⟩ | ⟨f, rfl, hfk, hf1, hf2⟩
              · exfalso
                have := eqs_none hno
                rw [← eqs_perm, ← HM.out] at this
                have := HQ0.out
                omega
              · have HE : Hid (m.take r ++ m.drop (r + 1) = stab (rJ R) (M.take f ++ M.drop (f + 1))) := by
                  unfold Hid
                  have := bag_take hfk hf1 hf2
                  rw [← HM.out, HR.out] at this
                  exact this
                clear hf1 hf2
                have b5 := below_step b3 hbel2
                have HB5 := Lib.hid (HB3.out.on hbel2)
                have rO : Hid (Rd wr wr.heap.size 2 A M.length (cI m)) := by unfold Hid; rw [HM.out]; exact Rd.of_own HB5.out.1
                have rL := Lib.hid (Rd.of_own HB5.out.2.1)
                have e1 : ((r : Int) == (M.length : Int)) = false := by rw [beq_eq_false_iff_ne]; omega
                go_wp2_with (first | (go_at_call 15; refine (inside_yes _ _ _ (by omega) (by omega)).mono ?_; rintro e w4 ⟨rfl, rfl⟩) | fail)
                clear e1
                obtain ⟨r', hr'⟩ : ∃ r', r' = r + 1 := ⟨_, rfl⟩
                obtain ⟨f', hf'⟩ : ∃ f', f' = f + 1 := ⟨_, rfl⟩
                rw [← hr', ← hf'] at HE
                obtain ⟨N, hN⟩ : ∃ N, N = M.take f ++ M.drop f' := ⟨_, rfl⟩
                rw [← hN] at HE
                have HNe := Lib.hid hN
                clear hN
                have HN1 : Hid (r + (M.length - r') = N.length) := by unfold Hid; rw [HNe.out, List.length_append, List.length_take, List.length_drop]; omega
                have HN2 : Hid (f + (M.length - f') = N.length) := by unfold Hid; rw [HNe.out, List.length_append, List.length_take, List.length_drop]; omega
                have hwr : IntKind.i64.wrap ((r : Int) + 1) = (r' : Int) := by rw [IntWalk.i64_in _ (by omega)]; omega
                have hwf : IntKind.i64.wrap ((f : Int) + 1) = (f' : Int) := by rw [IntWalk.i64_in _ (by omega)]; omega
                have q1 : r' ≤ M.length := by omega
                have q2 : f' ≤ M.length := by omega
                have q3 : r + (M.length - r') ≤ M.length := by omega
                have q4 : f + (M.length - f') ≤ M.length := by omega
                clear hr' hf'
                have a0 : (0 : Int) ≤ (r : Int) := Int.natCast_nonneg _
                have a1 : (r : Int) ≤ (ca : Int) := by omega
                have a2 : (0 : Int) ≤ (r' : Int) := Int.natCast_nonneg _
                have a3 : (r' : Int) ≤ (M.length : Int) := by omega
                have a4 : (r' : Int) ≤ (ca : Int) := by omega
                have a5 : (M.length : Int) ≤ (ca : Int) := by omega
                have a6 : (0 : Int) ≤ (f : Int) := Int.natCast_nonneg _
                have a7 : (f : Int) ≤ (cb : Int) := by omega
                have a8 : (0 : Int) ≤ (f' : Int) := Int.natCast_nonneg _
                have a9 : (f' : Int) ≤ (M.length : Int) := by omega
                have a10 : (f' : Int) ≤ (cb : Int) := by omega
                have a11 : (M.length : Int) ≤ (cb : Int) := by omega
                have HT1 : Hid (∀ Wx, Below wr.heap.size wr Wx → Rd Wx Wx.heap.size 2 A r (cI (m.take r))) := fun Wx hb => rd_takeI2 (rO.out.on hb) hri
                have HD1 : Hid (∀ A' Wx, (r' < M.length → A' = A.map (·.add (r' * 2))) → Below wr.heap.size wr Wx → Rd Wx Wx.heap.size 2 A' (M.length - r') (cI (m.drop r'))) := fun A' Wx hA hb => rd_dropI2 (rO.out.on hb) q1 hA
                have HT2 : Hid (∀ Wx, Below wr.heap.size wr Wx → Rd Wx Wx.heap.size 2 B f (cI (M.take f))) := fun Wx hb => rd_takeI2 (rL.out.on hb) (by omega)
                have HD2 : Hid (∀ B' Wx, (f' < M.length → B' = B.map (·.add (f' * 2))) → Below wr.heap.size wr Wx → Rd Wx Wx.heap.size 2 B' (M.length - f') (cI (M.drop f'))) := fun B' Wx hB hb => rd_dropI2 (rL.out.on hb) q2 hB
                have HZ1 : Hid (M.length ≤ r' → m.take r ++ [] = stab (rJ R) N ∧ r + 0 = N.length) := fun h => by
                  refine ⟨?_, by rw [← HN1.out]; omega⟩
                  have := HE.out
                  rw [List.drop_of_length_le (by rw [HML.out]; exact h)] at this
                  exact this
                have HZ2 : Hid (M.length ≤ f' → M.take f ++ [] = N ∧ f + 0 = N.length) := fun h => by
                  refine ⟨?_, by rw [← HN2.out]; omega⟩
                  rw [HNe.out, List.drop_of_length_le h]
                have hrca : r' ≤ ca := by omega
                have hfcb : f' ≤ cb := by omega
                have hsp1 : ca = r' ∨ ¬ ca = r' := by omega
                have hsp2 : cb = f' ∨ ¬ cb = f' := by omega
                rcases hsp1 with g1 | g1 <;> rcases hsp2 with g2 | g2
                all_goals (try subst g1)
                all_goals (try subst g2)
                all_goals
                  go_region_held3 (fun w' => Below wr.heap.size wr w')
                    (first | (exact (Below.refl _ _).drew) | (go_split_ands; exact nx_step (by assumption) hbc))
                    (first
                      | (go_at_call 19; ((with_reducible refine (joined_items (m.take r) (m.drop r') A _ r (M.length - r') _ _ _ (HT1.out _ (by assumption)) (HD1.out _ _ (by first | (intro h; exfalso; omega) | (intro _; rfl)) (by assumption)) (by omega)).mono ?_); rintro e w5 ⟨A5, c5, rfl, o5, hbc'⟩); rw [HE.out, HN1.out] at o5; rw [HN1.out]; have hb5 := Lib.hid hbc'; have hbc := nx hbc'; clear hbc')
                      | (go_at_call 19; ((with_reducible refine (joined_items (m.take r) [] A _ r 0 _ _ _ (HT1.out _ (by assumption)) Rd.none_ (by omega)).mono ?_); rintro e w5 ⟨A5, c5, rfl, o5, hbc'⟩); rw [(HZ1.out (by omega)).1, (HZ1.out (by omega)).2] at o5; rw [(HZ1.out (by omega)).2]; have hb5 := Lib.hid hbc'; have hbc := nx hbc'; clear hbc')
                      | (go_at_call 19; ((with_reducible refine (joined_items (M.take f) [] B _ f 0 _ _ _ (HT2.out _ (by assumption)) Rd.none_ (by omega)).mono ?_); rintro e w6 ⟨A6, c6, rfl, o6, hbc'⟩); rw [(HZ2.out (by omega)).1, (HZ2.out (by omega)).2] at o6; rw [(HZ2.out (by omega)).2]; have hb6 := Lib.hid hbc'; have hbc := nx hbc'; clear hbc')
                      | (go_at_call 19; ((with_reducible refine (joined_items (M.take f) (M.drop f') B _ f (M.length - f') _ _ _ (HT2.out _ (by assumption)) (HD2.out _ _ (by first | (intro h; exfalso; omega) | (intro _; rfl)) (by assumption)) (by omega)).mono ?_); rintro e w6 ⟨A6, c6, rfl, o6, hbc'⟩); rw [← HNe.out, HN2.out] at o6; rw [HN2.out]; have hb6 := Lib.hid hbc'; have hbc := nx hbc'; clear hbc'))
                  have bf : Below wr.heap.size wr w6 := by assumption
                  have hs5 : W.heap.size ≤ w5.heap.size := Nat.le_trans b5.size hb5.out.size
                  have HB6 : Hid (Bag w6 W.heap.size R (.slice A5 N.length c5) (.slice A6 N.length c6) N) := ⟨own_on (own_base o5 b5.size) hb6.out, own_base o6 hs5, apt_fresh o5 o6⟩
                  have b6 := below_step b5 bf
                  have hlen : N.length ≤ i + 1 := by rw [← HN2.out]; omega
                  clear o5 o6 hwr hwf
                  go_wp2
                  go_roundw
                  case rel => exact ⟨i + 1, A5, A6, c5, c6, N, by omega, hlen, by go_num, rfl, rfl, HB6, b6⟩
                  case measure => simp [intOf]; omega
    · obtain rfl : i = n0 := by omega
      have e2 := cell_on hbel d2
      have rO := Lib.hid (Rd.of_own HB.out.1)
      have rL := Lib.hid (Rd.of_own HB.out.2.1)
      go_wp2_with (first
        | (go_at_call 21; refine (Stable_any R A2 n2 c2 M B M.length cb _ (rr.out.on hbel) rL.out (by omega)).mono ?_; rintro e w1 ⟨A3, c3, rfl, o3, hb3⟩; have ru := Lib.hid (Rd.of_own o3); clear o3)
        | (go_at_call 20; refine (same_items (stab (rJ R) M) A A3 M.length ca c3 _ (rO.out.on hb3) ru.out (by omega)).mono ?_; rintro e w4 ⟨rfl, hb4⟩))
      go_ret
      exact ⟨rfl, below_step hb0 (below_step (below_step hbel hb3) hb4)⟩
end Go.Proofs.Ytbfeokhkmlcgaaa

/- FnBatches returns true: for every list, order and sizes. -/
import Derived.Test.YtbfeokhkmlcgaaaImplStable
import Derived.Test.YtbfeokhkmlcgaaaPlaces
import Derived.Test.YtbfeokhkmlcgaaaPut
import Derived.Test.YtbfeokhkmlcgaaaSame
import Derived.Test.YtbfeokhkmlcgaaaSteps
import Derived.Test.YtbfeokhkmlcgaaaOpen
import Derived.Deep.RegionHeld3
namespace Go.Proofs.Ytbfeokhkmlcgaaa
open Go.RowKit
attribute [local go_sem ↓] Go.wp_at_zero Go.wp_at_succ
theorem rd_takeI {w : World} {B n k : Nat} {A : Option Addr} {l : List (Int × Int)} (h : Rd w B 2 A n (cI l)) (hk : k ≤ n) : Rd w B 2 A k (cI (l.take k)) := by rw [← cI_take]; exact h.take_ hk
theorem rd_dropI {w : World} {B n k : Nat} {A A' : Option Addr} {l : List (Int × Int)} (h : Rd w B 2 A n (cI l)) (hk : k ≤ n) (hA : k < n → A' = A.map (·.add (k * 2))) : Rd w B 2 A' (n - k) (cI (l.drop k)) := by rw [← cI_drop]; exact h.drop_ hk hA
theorem batch_next (R : List Int) (l : List (Int × Int)) (k t : Nat) : stab (rJ R) (stab (rJ R) (l.take k) ++ (l.drop k).take t) = stab (rJ R) (l.take (k + t)) := by rw [stab_app_left, List.take_add]
theorem batch_last (R : List Int) (l : List (Int × Int)) (k : Nat) : stab (rJ R) (stab (rJ R) (l.take k) ++ l.drop k) = stab (rJ R) l := by rw [stab_app_left, List.take_append_drop]

set_option linter.unusedSimpArgs false in
set_option maxHeartbeats 4000000 in
theorem wFnBatches (A0 : Option Addr) (n0 c0 : Nat) (l0 : List (Int × Int)) (A2 : Option Addr) (n2 c2 : Nat) (R : List Int) (A3 : Option Addr) (n3 c3 : Nat) (Z : List Int) (w : World)
    (r0 : Rd w w.heap.size 2 A0 n0 (cI l0)) (_z0 : ∀ y ∈ l0, InI y.1 ∧ InI y.2) (le0 : n0 ≤ c0) (b0 : c0 * 16 ≤ 140737488351232)
    (r2 : Rd w w.heap.size 1 A2 n2 (cZ R)) (_z2 : ∀ y ∈ R, InI y) (_le2 : n2 ≤ c2) (_b2 : c2 * 8 ≤ 140737488351232)
    (r3 : Rd w w.heap.size 1 A3 n3 (cZ Z)) (_z3 : ∀ y ∈ Z, InI y) (le3 : n3 ≤ c3) (b3 : c3 * 8 ≤ 140737488351232) :
    Calls Try.prog 6 #[.slice A0 n0 c0, .agg #[.slice A2 n2 c2], .slice A3 n3 c3] w fun e w' => e = .returned (.bool true) ∧ Below w.heap.size w w' := by
  clear _z0 _z2 _le2 _b2 _z3
  have hn : n0 * 16 ≤ 140737488351232 := by omega
  have HL := Lib.hid (rdI_len r0)
  have hb0 := below_alloc1 w (.cells #[.slice A2 n2 c2] 25)
  have d2 : (w.alloc (.cells #[.slice A2 n2 c2] 25)).cell? ⟨w.heap.size, 0, none⟩ = some (.slice A2 n2 c2) := by simp [go_sem]
  have hlt : w.heap.size < (w.alloc (.cells #[.slice A2 n2 c2] 25)).heap.size := by simp
  have ra := Lib.hid (r0.on hb0)
  have rr := Lib.hid (r2.on hb0)
  have rz := Lib.hid (r3.on hb0)
  clear r0 r2 r3
  go_enter Try.func6, Try.ntmps6
  go_wp2
  generalize w.alloc (.cells #[.slice A2 n2 c2] 25) = W at *
  go_loopw [7, 8, 15] (fun u v s wr => ∃ (i k : Nat) (A B : Option Addr) (ca cb : Nat), i ≤ n3 ∧ k ≤ n0 ∧ s = .int .i64 i ∧ u = .slice A k ca ∧ v = .slice B (n0 - k) cb ∧ n0 - k ≤ cb ∧
    wr.ownsRow W.heap.size 28 2 (.slice A k ca) k (cI (stab (rJ R) (l0.take k))) ∧ Hid (Rd W W.heap.size 2 B (n0 - k) (cI (l0.drop k))) ∧ Below W.heap.size W wr) (fun _ _ s _ => n3 - (intOf s).toNat)
  case atStart => exact ⟨0, 0, none, A0, 0, c0, Nat.zero_le _, Nat.zero_le _, rfl, rfl, rfl, by omega, by simpa [cI, stab] using own_nil _ _ _ _, by rw [List.drop_zero, Nat.sub_zero]; exact ra.out, Below.refl _ _⟩
  case round =>
    obtain ⟨i, k, A, B, ca, cb, hi, hk, rfl, rfl, rfl, hcb, hown, hrest, hbel⟩ := hrel
    by_cases hli : i < n3
    · obtain ⟨bz, oz, rfl, _, hcz⟩ := rdZ_at (k := i) (rz.out.on hbel) hli
      generalize Z[i]?.getD 0 = z at hcz
      have e2 := cell_on hbel d2
      obtain ⟨r, hr⟩ : ∃ r, r = n0 - k := ⟨_, rfl⟩
      rw [← hr] at hrest hcb
      rw [← hr]
      have HRK : Hid (r = n0 - k) := hr
      have hrk : r + k = n0 := by omega
      clear hr
      rcases Int.lt_or_le z 0 with h1 | h1
      · have s1 : z < (r : Int) := by omega
        have q0 : (0 : Int) ≤ (0 : Int) := by omega
        have q1 : (0 : Int) ≤ (r : Int) := by omega
        have q2 : (0 : Int) ≤ (cb : Int) := by omega
        have hrt := Lib.hid (rd_takeI hrest.out (k := 0) (by omega))
        have HB := Lib.hid (batch_next R l0 k 0)
        go_wp2_with fail
        go_region_held3 (fun w' => w'.cell? ⟨w.heap.size, 0, none⟩ = some (.slice A2 n2 c2) ∧ Below W.heap.size W w')
          (first | (exact ⟨e2, hbel.drew⟩) | (go_split_ands; exact ⟨(hbc.cell hlt).trans (by assumption), Below.trans (by assumption) hbc⟩) | (go_split_ands; exact ⟨nx_cell hbc (by assumption), nx_step (by assumption) hbc⟩))
          (first
            | (refine step_all eI rfl _ _ rfl W.heap.size _ (.slice A k ca) k (cI (stab (rJ R) (l0.take k))) rfl (show World.ownsRow wr.drew _ _ _ _ _ _ from hown) W.heap.size B 0 _ (cI ((l0.drop k).take 0)) rfl (by go_split_ands; exact hrt.out.below (by assumption)) (cI_one _) (by omega) (by unfold maxLen; omega) (by go_split_ands; exact Below.size (by assumption)) ?_; intro v1 w1 h1; obtain ⟨A1, c1, rfl, o1, hbc⟩ := all_out (show World.ownsRow wr.drew _ _ _ _ _ _ from hown) (by go_split_ands; exact Below.size (by assumption)) h1; clear h1)
            | (go_at_call 21; go_split_ands; refine (Stable_any R A2 n2 c2 _ A1 (k + 0) c1 _ (rr.out.on (by assumption)) (Rd.of_own o1) (by omega)).mono ?_; rintro e w2 ⟨A5, c5, rfl, o5, hbc'⟩; rw [HB.out] at o5; have hbc := nx hbc'; clear hbc'))
        have b2 : Below W.heap.size W w2 := by go_split_ands; assumption
        have b1 : W.heap.size ≤ w1.heap.size := by go_split_ands; exact Below.size (by assumption)
        have o6 := own_base (base' := W.heap.size) o5 b1
        clear o5 o1 hown
        have HR2 : Hid (∀ B', (0 < r → B' = B.map (·.add (0 * 2))) → Rd W W.heap.size 2 B' (n0 - (k + 0)) (cI (l0.drop (k + 0)))) := fun B' h => by
          have := rd_dropI hrest.out (k := 0) (by omega) h
          rw [List.drop_drop] at this
          rw [show n0 - (k + 0) = r - 0 by omega]
          exact this
        have HNK : Hid (n0 - (k + 0) = r - 0) := by unfold Hid; omega
        clear hrest hrt
        go_wp2
        all_goals
          go_roundw
          case rel => exact ⟨i + 1, k + 0, A5, _, c5, _, by omega, by omega, by go_num, rfl, (by rw [HNK.out] <;> first | rfl | (congr 1; omega)), by omega, o6, HR2.out _ (by first | (intro h; exfalso; omega) | (intro _; simp; done) | (intro _; cases B <;> simp [Addr.add])), b2⟩
          case measure => simp [intOf]; omega
      · obtain ⟨t, rfl⟩ := Int.eq_ofNat_of_zero_le h1
        rcases Nat.lt_or_ge t r with h2 | h2
        · rcases Nat.eq_zero_or_pos t with rfl | s2
          · have s1 : (0 : Int) < (r : Int) := by omega
            have q0 : (0 : Int) ≤ (0 : Int) := by omega
            have q1 : (0 : Int) ≤ (r : Int) := by omega
            have q2 : (0 : Int) ≤ (cb : Int) := by omega
            have hrt := Lib.hid (rd_takeI hrest.out (k := 0) (by omega))
            have HB := Lib.hid (batch_next R l0 k 0)
            go_wp2_with fail
            go_region_held3 (fun w' => w'.cell? ⟨w.heap.size, 0, none⟩ = some (.slice A2 n2 c2) ∧ Below W.heap.size W w')
              (first | (exact ⟨e2, hbel.drew⟩) | (go_split_ands; exact ⟨(hbc.cell hlt).trans (by assumption), Below.trans (by assumption) hbc⟩) | (go_split_ands; exact ⟨nx_cell hbc (by assumption), nx_step (by assumption) hbc⟩))
              (first
                | (refine step_all eI rfl _ _ rfl W.heap.size _ (.slice A k ca) k (cI (stab (rJ R) (l0.take k))) rfl (show World.ownsRow wr.drew _ _ _ _ _ _ from hown) W.heap.size B 0 _ (cI ((l0.drop k).take 0)) rfl (by go_split_ands; exact hrt.out.below (by assumption)) (cI_one _) (by omega) (by unfold maxLen; omega) (by go_split_ands; exact Below.size (by assumption)) ?_; intro v1 w1 h1; obtain ⟨A1, c1, rfl, o1, hbc⟩ := all_out (show World.ownsRow wr.drew _ _ _ _ _ _ from hown) (by go_split_ands; exact Below.size (by assumption)) h1; clear h1)
                | (go_at_call 21; go_split_ands; refine (Stable_any R A2 n2 c2 _ A1 (k + 0) c1 _ (rr.out.on (by assumption)) (Rd.of_own o1) (by omega)).mono ?_; rintro e w2 ⟨A5, c5, rfl, o5, hbc'⟩; rw [HB.out] at o5; have hbc := nx hbc'; clear hbc'))
            have b2 : Below W.heap.size W w2 := by go_split_ands; assumption
            have b1 : W.heap.size ≤ w1.heap.size := by go_split_ands; exact Below.size (by assumption)
            have o6 := own_base (base' := W.heap.size) o5 b1
            clear o5 o1 hown
            have HR2 : Hid (∀ B', (0 < r → B' = B.map (·.add (0 * 2))) → Rd W W.heap.size 2 B' (n0 - (k + 0)) (cI (l0.drop (k + 0)))) := fun B' h => by
              have := rd_dropI hrest.out (k := 0) (by omega) h
              rw [List.drop_drop] at this
              rw [show n0 - (k + 0) = r - 0 by omega]
              exact this
            have HNK : Hid (n0 - (k + 0) = r - 0) := by unfold Hid; omega
            clear hrest hrt
            go_wp2
            all_goals
              go_roundw
              case rel => exact ⟨i + 1, k + 0, A5, _, c5, _, by omega, by omega, by go_num, rfl, (by rw [HNK.out] <;> first | rfl | (congr 1; omega)), by omega, o6, HR2.out _ (by first | (intro h; exfalso; omega) | (intro _; simp; done) | (intro _; cases B <;> simp [Addr.add])), b2⟩
              case measure => simp [intOf]; omega
          · have s1 : (t : Int) < (r : Int) := by omega
            have q0 : (0 : Int) ≤ (t : Int) := by omega
            have q1 : (t : Int) ≤ (r : Int) := by omega
            have q2 : (t : Int) ≤ (cb : Int) := by omega
            have hrt := Lib.hid (rd_takeI hrest.out (k := t) (by omega))
            have HB := Lib.hid (batch_next R l0 k t)
            go_wp2_with fail
            go_region_held3 (fun w' => w'.cell? ⟨w.heap.size, 0, none⟩ = some (.slice A2 n2 c2) ∧ Below W.heap.size W w')
              (first | (exact ⟨e2, hbel.drew⟩) | (go_split_ands; exact ⟨(hbc.cell hlt).trans (by assumption), Below.trans (by assumption) hbc⟩) | (go_split_ands; exact ⟨nx_cell hbc (by assumption), nx_step (by assumption) hbc⟩))
              (first
                | (refine step_all eI rfl _ _ rfl W.heap.size _ (.slice A k ca) k (cI (stab (rJ R) (l0.take k))) rfl (show World.ownsRow wr.drew _ _ _ _ _ _ from hown) W.heap.size B t _ (cI ((l0.drop k).take t)) rfl (by go_split_ands; exact hrt.out.below (by assumption)) (cI_one _) (by omega) (by unfold maxLen; omega) (by go_split_ands; exact Below.size (by assumption)) ?_; intro v1 w1 h1; obtain ⟨A1, c1, rfl, o1, hbc⟩ := all_out (show World.ownsRow wr.drew _ _ _ _ _ _ from hown) (by go_split_ands; exact Below.size (by assumption)) h1; clear h1)
                | (go_at_call 21; go_split_ands; refine (Stable_any R A2 n2 c2 _ A1 (k + t) c1 _ (rr.out.on (by assumption)) (Rd.of_own o1) (by omega)).mono ?_; rintro e w2 ⟨A5, c5, rfl, o5, hbc'⟩; rw [HB.out] at o5; have hbc := nx hbc'; clear hbc'))
            have b2 : Below W.heap.size W w2 := by go_split_ands; assumption
            have b1 : W.heap.size ≤ w1.heap.size := by go_split_ands; exact Below.size (by assumption)
            have o6 := own_base (base' := W.heap.size) o5 b1
            clear o5 o1 hown
            have HR2 : Hid (∀ B', (t < r → B' = B.map (·.add (t * 2))) → Rd W W.heap.size 2 B' (n0 - (k + t)) (cI (l0.drop (k + t)))) := fun B' h => by
              have := rd_dropI hrest.out (k := t) (by omega) h
              rw [List.drop_drop] at this
              rw [show n0 - (k + t) = r - t by omega]
              exact this
            have HNK : Hid (n0 - (k + t) = r - t) := by unfold Hid; omega
            clear hrest hrt
            go_wp2
            all_goals
              go_roundw
              case rel => exact ⟨i + 1, k + t, A5, _, c5, _, by omega, by omega, by go_num, rfl, (by rw [HNK.out] <;> first | rfl | (congr 1; omega)), by omega, o6, HR2.out _ (by first | (intro h; exfalso; omega) | (intro _; simp; done) | (intro _; cases B <;> simp [Addr.add])), b2⟩
              case measure => simp [intOf]; omega
        · rcases Nat.eq_or_lt_of_le h2 with h3 | h3
          · obtain rfl : t = r := h3.symm
            rcases Nat.eq_zero_or_pos t with rfl | s2
            · skip
              have q0 : (0 : Int) ≤ (0 : Int) := by omega
              have q1 : (0 : Int) ≤ (0 : Int) := by omega
              have q2 : (0 : Int) ≤ (cb : Int) := by omega
              have hrt := Lib.hid (rd_takeI hrest.out (k := 0) (by omega))
              have HB := Lib.hid (batch_next R l0 k 0)
              go_wp2_with fail
              go_region_held3 (fun w' => w'.cell? ⟨w.heap.size, 0, none⟩ = some (.slice A2 n2 c2) ∧ Below W.heap.size W w')
                (first | (exact ⟨e2, hbel.drew⟩) | (go_split_ands; exact ⟨(hbc.cell hlt).trans (by assumption), Below.trans (by assumption) hbc⟩) | (go_split_ands; exact ⟨nx_cell hbc (by assumption), nx_step (by assumption) hbc⟩))
                (first
                  | (refine step_all eI rfl _ _ rfl W.heap.size _ (.slice A k ca) k (cI (stab (rJ R) (l0.take k))) rfl (show World.ownsRow wr.drew _ _ _ _ _ _ from hown) W.heap.size B 0 _ (cI ((l0.drop k).take 0)) rfl (by go_split_ands; exact hrt.out.below (by assumption)) (cI_one _) (by omega) (by unfold maxLen; omega) (by go_split_ands; exact Below.size (by assumption)) ?_; intro v1 w1 h1; obtain ⟨A1, c1, rfl, o1, hbc⟩ := all_out (show World.ownsRow wr.drew _ _ _ _ _ _ from hown) (by go_split_ands; exact Below.size (by assumption)) h1; clear h1)
                  | (go_at_call 21; go_split_ands; refine (Stable_any R A2 n2 c2 _ A1 (k + 0) c1 _ (rr.out.on (by assumption)) (Rd.of_own o1) (by omega)).mono ?_; rintro e w2 ⟨A5, c5, rfl, o5, hbc'⟩; rw [HB.out] at o5; have hbc := nx hbc'; clear hbc'))
              have b2 : Below W.heap.size W w2 := by go_split_ands; assumption
              have b1 : W.heap.size ≤ w1.heap.size := by go_split_ands; exact Below.size (by assumption)
              have o6 := own_base (base' := W.heap.size) o5 b1
              clear o5 o1 hown
              have HR2 : Hid (∀ B', ((0 : Nat) < 0 → B' = B.map (·.add (0 * 2))) → Rd W W.heap.size 2 B' (n0 - (k + 0)) (cI (l0.drop (k + 0)))) := fun B' h => by
                have := rd_dropI hrest.out (k := 0) (by omega) h
                rw [List.drop_drop] at this
                rw [show n0 - (k + 0) = 0 - 0 by omega]
                exact this
              have HNK : Hid (n0 - (k + 0) = 0 - 0) := by unfold Hid; omega
              clear hrest hrt
              go_wp2
              all_goals
                go_roundw
                case rel => exact ⟨i + 1, k + 0, A5, _, c5, _, by omega, by omega, by go_num, rfl, (by rw [HNK.out] <;> first | rfl | (congr 1; omega)), by omega, o6, HR2.out _ (by first | (intro h; exfalso; omega) | (intro _; simp; done) | (intro _; cases B <;> simp [Addr.add])), b2⟩
                case measure => simp [intOf]; omega
            · skip
              have q0 : (0 : Int) ≤ (t : Int) := by omega
              have q1 : (t : Int) ≤ (t : Int) := by omega
              have q2 : (t : Int) ≤ (cb : Int) := by omega
              have hrt := Lib.hid (rd_takeI hrest.out (k := t) (by omega))
              have HB := Lib.hid (batch_next R l0 k t)
              go_wp2_with fail
              go_region_held3 (fun w' => w'.cell? ⟨w.heap.size, 0, none⟩ = some (.slice A2 n2 c2) ∧ Below W.heap.size W w')
                (first | (exact ⟨e2, hbel.drew⟩) | (go_split_ands; exact ⟨(hbc.cell hlt).trans (by assumption), Below.trans (by assumption) hbc⟩) | (go_split_ands; exact ⟨nx_cell hbc (by assumption), nx_step (by assumption) hbc⟩))
                (first
                  | (refine step_all eI rfl _ _ rfl W.heap.size _ (.slice A k ca) k (cI (stab (rJ R) (l0.take k))) rfl (show World.ownsRow wr.drew _ _ _ _ _ _ from hown) W.heap.size B t _ (cI ((l0.drop k).take t)) rfl (by go_split_ands; exact hrt.out.below (by assumption)) (cI_one _) (by omega) (by unfold maxLen; omega) (by go_split_ands; exact Below.size (by assumption)) ?_; intro v1 w1 h1; obtain ⟨A1, c1, rfl, o1, hbc⟩ := all_out (show World.ownsRow wr.drew _ _ _ _ _ _ from hown) (by go_split_ands; exact Below.size (by assumption)) h1; clear h1)
                  | (go_at_call 21; go_split_ands; refine (Stable_any R A2 n2 c2 _ A1 (k + t) c1 _ (rr.out.on (by assumption)) (Rd.of_own o1) (by omega)).mono ?_; rintro e w2 ⟨A5, c5, rfl, o5, hbc'⟩; rw [HB.out] at o5; have hbc := nx hbc'; clear hbc'))
              have b2 : Below W.heap.size W w2 := by go_split_ands; assumption
              have b1 : W.heap.size ≤ w1.heap.size := by go_split_ands; exact Below.size (by assumption)
              have o6 := own_base (base' := W.heap.size) o5 b1
              clear o5 o1 hown
              have HR2 : Hid (∀ B', (t < t → B' = B.map (·.add (t * 2))) → Rd W W.heap.size 2 B' (n0 - (k + t)) (cI (l0.drop (k + t)))) := fun B' h => by
                have := rd_dropI hrest.out (k := t) (by omega) h
                rw [List.drop_drop] at this
                rw [show n0 - (k + t) = t - t by omega]
                exact this
              have HNK : Hid (n0 - (k + t) = t - t) := by unfold Hid; omega
              clear hrest hrt
              go_wp2
              all_goals
                go_roundw
                case rel => exact ⟨i + 1, k + t, A5, _, c5, _, by omega, by omega, by go_num, rfl, (by rw [HNK.out] <;> first | rfl | (congr 1; omega)), by omega, o6, HR2.out _ (by first | (intro h; exfalso; omega) | (intro _; simp; done) | (intro _; cases B <;> simp [Addr.add])), b2⟩
                case measure => simp [intOf]; omega
          · rcases Nat.eq_zero_or_pos r with rfl | s2
            · have s1 : (0 : Int) < (t : Int) := by omega
              have q0 : (0 : Int) ≤ (0 : Int) := by omega
              have q1 : (0 : Int) ≤ (0 : Int) := by omega
              have q2 : (0 : Int) ≤ (cb : Int) := by omega
              have hrt := Lib.hid (rd_takeI hrest.out (k := 0) (by omega))
              have HB := Lib.hid (batch_next R l0 k 0)
              go_wp2_with fail
              go_region_held3 (fun w' => w'.cell? ⟨w.heap.size, 0, none⟩ = some (.slice A2 n2 c2) ∧ Below W.heap.size W w')
                (first | (exact ⟨e2, hbel.drew⟩) | (go_split_ands; exact ⟨(hbc.cell hlt).trans (by assumption), Below.trans (by assumption) hbc⟩) | (go_split_ands; exact ⟨nx_cell hbc (by assumption), nx_step (by assumption) hbc⟩))
                (first
                  | (refine step_all eI rfl _ _ rfl W.heap.size _ (.slice A k ca) k (cI (stab (rJ R) (l0.take k))) rfl (show World.ownsRow wr.drew _ _ _ _ _ _ from hown) W.heap.size B 0 _ (cI ((l0.drop k).take 0)) rfl (by go_split_ands; exact hrt.out.below (by assumption)) (cI_one _) (by omega) (by unfold maxLen; omega) (by go_split_ands; exact Below.size (by assumption)) ?_; intro v1 w1 h1; obtain ⟨A1, c1, rfl, o1, hbc⟩ := all_out (show World.ownsRow wr.drew _ _ _ _ _ _ from hown) (by go_split_ands; exact Below.size (by assumption)) h1; clear h1)
                  | (go_at_call 21; go_split_ands; refine (Stable_any R A2 n2 c2 _ A1 (k + 0) c1 _ (rr.out.on (by assumption)) (Rd.of_own o1) (by omega)).mono ?_; rintro e w2 ⟨A5, c5, rfl, o5, hbc'⟩; rw [HB.out] at o5; have hbc := nx hbc'; clear hbc'))
              have b2 : Below W.heap.size W w2 := by go_split_ands; assumption
              have b1 : W.heap.size ≤ w1.heap.size := by go_split_ands; exact Below.size (by assumption)
              have o6 := own_base (base' := W.heap.size) o5 b1
              clear o5 o1 hown
              have HR2 : Hid (∀ B', ((0 : Nat) < 0 → B' = B.map (·.add (0 * 2))) → Rd W W.heap.size 2 B' (n0 - (k + 0)) (cI (l0.drop (k + 0)))) := fun B' h => by
                have := rd_dropI hrest.out (k := 0) (by omega) h
                rw [List.drop_drop] at this
                rw [show n0 - (k + 0) = 0 - 0 by omega]
                exact this
              have HNK : Hid (n0 - (k + 0) = 0 - 0) := by unfold Hid; omega
              clear hrest hrt
              go_wp2
              all_goals
                go_roundw
                case rel => exact ⟨i + 1, k + 0, A5, _, c5, _, by omega, by omega, by go_num, rfl, (by rw [HNK.out] <;> first | rfl | (congr 1; omega)), by omega, o6, HR2.out _ (by first | (intro h; exfalso; omega) | (intro _; simp; done) | (intro _; cases B <;> simp [Addr.add])), b2⟩
                case measure => simp [intOf]; omega
            · have s1 : (r : Int) < (t : Int) := by omega
              have q0 : (0 : Int) ≤ (r : Int) := by omega
              have q1 : (r : Int) ≤ (r : Int) := by omega
              have q2 : (r : Int) ≤ (cb : Int) := by omega
              have hrt := Lib.hid (rd_takeI hrest.out (k := r) (by omega))
              have HB := Lib.hid (batch_next R l0 k r)
              go_wp2_with fail
              go_region_held3 (fun w' => w'.cell? ⟨w.heap.size, 0, none⟩ = some (.slice A2 n2 c2) ∧ Below W.heap.size W w')
                (first | (exact ⟨e2, hbel.drew⟩) | (go_split_ands; exact ⟨(hbc.cell hlt).trans (by assumption), Below.trans (by assumption) hbc⟩) | (go_split_ands; exact ⟨nx_cell hbc (by assumption), nx_step (by assumption) hbc⟩))
                (first
                  | (refine step_all eI rfl _ _ rfl W.heap.size _ (.slice A k ca) k (cI (stab (rJ R) (l0.take k))) rfl (show World.ownsRow wr.drew _ _ _ _ _ _ from hown) W.heap.size B r _ (cI ((l0.drop k).take r)) rfl (by go_split_ands; exact hrt.out.below (by assumption)) (cI_one _) (by omega) (by unfold maxLen; omega) (by go_split_ands; exact Below.size (by assumption)) ?_; intro v1 w1 h1; obtain ⟨A1, c1, rfl, o1, hbc⟩ := all_out (show World.ownsRow wr.drew _ _ _ _ _ _ from hown) (by go_split_ands; exact Below.size (by assumption)) h1; clear h1)
                  | (go_at_call 21; go_split_ands; refine (Stable_any R A2 n2 c2 _ A1 (k + r) c1 _ (rr.out.on (by assumption)) (Rd.of_own o1) (by omega)).mono ?_; rintro e w2 ⟨A5, c5, rfl, o5, hbc'⟩; rw [HB.out] at o5; have hbc := nx hbc'; clear hbc'))
              have b2 : Below W.heap.size W w2 := by go_split_ands; assumption
              have b1 : W.heap.size ≤ w1.heap.size := by go_split_ands; exact Below.size (by assumption)
              have o6 := own_base (base' := W.heap.size) o5 b1
              clear o5 o1 hown
              have HR2 : Hid (∀ B', (r < r → B' = B.map (·.add (r * 2))) → Rd W W.heap.size 2 B' (n0 - (k + r)) (cI (l0.drop (k + r)))) := fun B' h => by
                have := rd_dropI hrest.out (k := r) (by omega) h
                rw [List.drop_drop] at this
                rw [show n0 - (k + r) = r - r by omega]
                exact this
              have HNK : Hid (n0 - (k + r) = r - r) := by unfold Hid; omega
              clear hrest hrt
              go_wp2
              all_goals
                go_roundw
                case rel => exact ⟨i + 1, k + r, A5, _, c5, _, by omega, by omega, by go_num, rfl, (by rw [HNK.out] <;> first | rfl | (congr 1; omega)), by omega, o6, HR2.out _ (by first | (intro h; exfalso; omega) | (intro _; simp; done) | (intro _; cases B <;> simp [Addr.add])), b2⟩
                case measure => simp [intOf]; omega
    · obtain rfl : i = n3 := by omega
      have e2 := cell_on hbel d2
      have HB := Lib.hid (batch_last R l0 k)
      have HN : Hid (k + (n0 - k) = n0) := by unfold Hid; omega
      have hnk : k + (n0 - k) ≤ n0 := by omega
      go_wp2_with fail
      go_region_held3 (fun w' => w'.cell? ⟨w.heap.size, 0, none⟩ = some (.slice A2 n2 c2) ∧ Below W.heap.size W w')
        (first | (exact ⟨e2, hbel.drew⟩) | (go_split_ands; exact ⟨(hbc.cell hlt).trans (by assumption), Below.trans (by assumption) hbc⟩) | (go_split_ands; exact ⟨nx_cell hbc (by assumption), nx_step (by assumption) hbc⟩))
        (first
          | (refine step_all eI rfl _ _ rfl W.heap.size _ (.slice A k ca) k (cI (stab (rJ R) (l0.take k))) rfl (show World.ownsRow wr.drew _ _ _ _ _ _ from hown) W.heap.size B (n0 - k) _ (cI (l0.drop k)) rfl (by go_split_ands; exact hrest.out.below (by assumption)) (cI_one _) (by omega) (by unfold maxLen; omega) (by go_split_ands; exact Below.size (by assumption)) ?_; intro v1 w1 h1; obtain ⟨A1, c1, rfl, o1, hbc⟩ := all_out (show World.ownsRow wr.drew _ _ _ _ _ _ from hown) (by go_split_ands; exact Below.size (by assumption)) h1; clear h1; rw [HN.out] at o1 ⊢)
          | (go_at_call 21; go_split_ands; refine (Stable_any R A2 n2 c2 _ A1 n0 c1 _ (rr.out.on (by assumption)) (Rd.of_own o1) (by omega)).mono ?_; rintro e w2 ⟨A5, c5, rfl, o5, hbc'⟩; rw [HB.out] at o5; have hbc := nx hbc'; clear hbc'))
      have b2 : Below W.heap.size W w2 := by go_split_ands; assumption
      have f2 : w2.cell? ⟨w.heap.size, 0, none⟩ = some (.slice A2 n2 c2) := by go_split_ands; assumption
      have r5 := Lib.hid (Rd.of_own o5)
      clear o5 o1 hown hrest
      go_wp2_with (first
        | (go_at_call 21; refine (Stable_any R A2 n2 c2 l0 A0 n0 c0 _ (rr.out.on b2) (ra.out.on b2) (by omega)).mono ?_; rintro e w3 ⟨A6, c6, rfl, o6, hb3⟩; have r6 := Lib.hid (Rd.of_own o6); clear o6)
        | (go_at_call 20; refine (same_items (stab (rJ R) l0) A5 A6 n0 c5 c6 _ (r5.out.on hb3) r6.out (by omega)).mono ?_; rintro e w4 ⟨rfl, hb4⟩))
      go_ret
      exact ⟨rfl, below_step hb0 (below_step (below_step b2 hb3) hb4)⟩
end Go.Proofs.Ytbfeokhkmlcgaaa

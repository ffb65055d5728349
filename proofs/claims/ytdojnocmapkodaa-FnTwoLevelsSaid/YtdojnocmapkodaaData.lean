/- The methods of impl.data as sort's Interface: Len, Less, Swap, over a row of items of the call's own. -/
import Derived.Test.YtdojnocmapkodaaRank
import Derived.Test.YtdojnocmapkodaaAppend
import Derived.BigRegion
import Derived.RegionTactic
import Derived.Outline
namespace Go.Proofs.Ytdojnocmapkodaa
open Go.RowKit
attribute [local go_sem ↓] Go.wp_at_zero Go.wp_at_succ

/-- The row of items of block g, of n elements: in W it holds d; all else that was there in w0 is as it was. -/
def St (w0 W : World) (base g n c : Nat) (d : List (Int × Int)) : Prop :=
  W.ownsRow base 27 2 (.slice (some ⟨g, 0, none⟩) n c) n (cI d) ∧ w0.grownBy W (some g)
theorem St.len {w0 W : World} {base g n c : Nat} {d : List (Int × Int)} (h : St w0 W base g n c d) : d.length = n := by have := h.1.1; rw [cI_len] at this; omega
theorem St.cell1 {w0 W : World} {base g n c : Nat} {d : List (Int × Int)} (h : St w0 W base g n c d) {i : Nat} (hi : i < n) : W.cell? ⟨g, i * 2, none⟩ = some (.int .i64 (it d i).1) := by
  have hl := h.len
  rw [h.1.cellAt _ (by omega), Nat.mul_comm, (cI_at d i (by omega)).1, it_lt (by omega)]
theorem St.cell2 {w0 W : World} {base g n c : Nat} {d : List (Int × Int)} (h : St w0 W base g n c d) {i : Nat} (hi : i < n) : W.cell? ⟨g, i * 2 + 1, none⟩ = some (.int .i64 (it d i).2) := by
  have hl := h.len
  rw [h.1.cellAt _ (by omega), Nat.mul_comm, (cI_at d i (by omega)).2, it_lt (by omega)]
theorem St.on {w0 W W' : World} {base g n c : Nat} {d : List (Int × Int)} (h : St w0 W base g n c d) (hb : Below W.heap.size W W') : St w0 W' base g n c d := by
  have hg : W.grownBy W' (none) := ⟨hb.os, hb.tape, hb.output, hb.size, fun k hk _ => hb.block k hk⟩
  refine ⟨h.1.kept hg (by simp [Value.ownBlock]), ?_⟩
  exact ⟨hb.os.trans h.2.os, hb.tape.trans h.2.tape, hb.output.trans h.2.output, Nat.le_trans h.2.size hb.size, fun k hk hne => (hb.block k (Nat.lt_of_lt_of_le hk h.2.size)).trans (h.2.block k hk hne)⟩
theorem St.rd {w0 W : World} {base g n c m : Nat} {A : Option Addr} {R : List Int} {d : List (Int × Int)} (h : St w0 W base g n c d) (hr : Rd w0 base 1 A m (cZ R)) (hb : base ≤ w0.heap.size) : Rd W W.heap.size 1 A m (cZ R) := by
  have hg : base ≤ g := (h.1.lt g rfl).1
  exact (hr.grown h.2 hb (fun g' e => by injection e with e; omega)).more (Nat.le_trans hb h.2.size)
theorem St.trans {w0 w1 W : World} {base g n c : Nat} {d d1 : List (Int × Int)} (h : St w0 w1 base g n c d1) (k : St w1 W base g n c d) : St w0 W base g n c d :=
  ⟨k.1, ⟨k.2.os.trans h.2.os, k.2.tape.trans h.2.tape, k.2.output.trans h.2.output, Nat.le_trans h.2.size k.2.size, fun i hi hne => (k.2.block i (Nat.lt_of_lt_of_le hi h.2.size) hne).trans (h.2.block i hi hne)⟩⟩

set_option maxHeartbeats 400000 in
theorem dLen_any (A AR : Option Addr) (n c m cR : Nat) (W : World) :
    Calls Try.prog 69 #[.agg #[.slice A n c, .slice AR m cR]] W fun e w' => e = .returned (.int .i64 n) ∧ Below W.heap.size W w' := by
  go_enter Try.func69, Try.ntmps69
  go_wp2
  go_ret
  exact ⟨rfl, (Below.refl _ _).alloc (Nat.le_refl _) _⟩

/-- Does the element at i come before that at j? -/
def ltAt (R : List Int) (d : List (Int × Int)) (i j : Nat) : Bool := decide (rk R (it d i).1 < rk R (it d j).1)

set_option maxHeartbeats 2000000 in
theorem dLess_any (R : List Int) (AR : Option Addr) (m cR : Nat) (w0 W : World) (base g n c : Nat) (d : List (Int × Int)) (i j : Nat) (hst : St w0 W base g n c d) (hr : Rd w0 base 1 AR m (cZ R)) (hb : base ≤ w0.heap.size) (hi : i < n) (hj : j < n) :
    Calls Try.prog 70 #[.agg #[.slice (some ⟨g, 0, none⟩) n c, .slice AR m cR], .int .i64 i, .int .i64 j] W fun e w' => e = .returned (.bool (ltAt R d i j)) ∧ Below W.heap.size W w' := by
  have hrW := hst.rd hr hb
  have hb0 : Below W.heap.size W (W.alloc (.cells #[.slice (some ⟨g, 0, none⟩) n c, .slice AR m cR] 63)) := (Below.refl _ _).alloc (Nat.le_refl _) _
  have x1 := cell_on hb0 (hst.cell1 hi)
  have x2 := cell_on hb0 (hst.cell2 hi)
  have y1 := cell_on hb0 (hst.cell1 hj)
  have y2 := cell_on hb0 (hst.cell2 hj)
  have z1 : (W.alloc (.cells #[.slice (some ⟨g, 0, none⟩) n c, .slice AR m cR] 63)).cell? ⟨W.heap.size, 0, none⟩ = some (.slice (some ⟨g, 0, none⟩) n c) := by simp [go_sem]
  have z2 : (W.alloc (.cells #[.slice (some ⟨g, 0, none⟩) n c, .slice AR m cR] 63)).cell? ⟨W.heap.size, 1, none⟩ = some (.slice AR m cR) := by simp [go_sem]
  have HR : Hid (∀ W', Below W.heap.size W W' → Rd W' W'.heap.size 1 AR m (cZ R)) := fun W' hb => hrW.on hb
  have HLT : Hid (ltAt R d i j = decide (rk R (it d i).1 < rk R (it d j).1)) := rfl
  rw [HLT.out]
  clear hrW hst HLT hr
  generalize it d i = a at x1 x2 ⊢
  generalize it d j = b at y1 y2 ⊢
  obtain ⟨k, t⟩ := a
  obtain ⟨k', t'⟩ := b
  have hi0 : (0 : Int) ≤ (i : Int) := Int.natCast_nonneg _
  have hi1 : (i : Int) < (n : Int) := by omega
  have hj0 : (0 : Int) ≤ (j : Int) := Int.natCast_nonneg _
  have hj1 : (j : Int) < (n : Int) := by omega
  go_enter Try.func70, Try.ntmps70
  go_wp2
  generalize W.alloc (.cells #[.slice (some ⟨g, 0, none⟩) n c, .slice AR m cR] 63) = W1 at hb0 x1 x2 y1 y2 z1 z2 ⊢
  go_region_held3 (fun w' => w'.cell? ⟨W.heap.size, 0, none⟩ = some (.slice (some ⟨g, 0, none⟩) n c) ∧ w'.cell? ⟨W.heap.size, 1, none⟩ = some (.slice AR m cR) ∧ w'.cell? ⟨g, i * 2, none⟩ = some (.int .i64 k) ∧ w'.cell? ⟨g, i * 2 + 1, none⟩ = some (.int .i64 t) ∧ w'.cell? ⟨g, j * 2, none⟩ = some (.int .i64 k') ∧ w'.cell? ⟨g, j * 2 + 1, none⟩ = some (.int .i64 t') ∧ Below W.heap.size W w')
    (first | (exact ⟨z1, z2, x1, x2, y1, y2, hb0.drew⟩) | (go_split_ands; exact ⟨nx_cell hbc (by assumption), nx_cell hbc (by assumption), nx_cell hbc (by assumption), nx_cell hbc (by assumption), nx_cell hbc (by assumption), nx_cell hbc (by assumption), nx_step (by assumption) hbc⟩))
    (first | (go_at_call 39; go_split_ands; refine (before_any R AR m cR _ _ _ _ _ (HR.out _ (by assumption))).mono ?_; rintro e w' ⟨rfl, hbc'⟩; have hbc := nx hbc'; clear hbc'))
  all_goals
    go_wp2
    go_ret
    exact ⟨rfl, by go_split_ands; assumption⟩

/-- Two elements exchanged. -/
def swp (d : List (Int × Int)) (i j : Nat) : List (Int × Int) := (d.set i (it d j)).set j (it d i)
theorem cell_ne {W : World} {g a b : Nat} {u v : Value} (h : W.cell? ⟨g, a, none⟩ = some u) (hne : a ≠ b) : (W.setCell ⟨g, b, none⟩ v).cell? ⟨g, a, none⟩ = some u :=
  (World.cell?_setCell_other W ⟨g, b, none⟩ ⟨g, a, none⟩ v (by intro e; injection e with _ e2; exact hne e2.symm)).trans h

set_option maxHeartbeats 4000000 in
theorem dSwap_any (AR : Option Addr) (m cR : Nat) (w0 W : World) (base g n c : Nat) (d : List (Int × Int)) (i j : Nat) (hst : St w0 W base g n c d) (hi : i < n) (hj : j < n) (hij : i ≠ j) :
    Calls Try.prog 71 #[.agg #[.slice (some ⟨g, 0, none⟩) n c, .slice AR m cR], .int .i64 i, .int .i64 j] W fun e w' => e = .returned (.tuple #[]) ∧ St w0 w' base g n c (swp d i j) := by
  have hb0 : Below W.heap.size W (W.alloc (.cells #[.slice (some ⟨g, 0, none⟩) n c, .slice AR m cR] 63)) := (Below.refl _ _).alloc (Nat.le_refl _) _
  have hgl : g < W.heap.size := (hst.1.lt g rfl).2
  have st1 := hst.on hb0
  have z1 : (W.alloc (.cells #[.slice (some ⟨g, 0, none⟩) n c, .slice AR m cR] 63)).cell? ⟨W.heap.size, 0, none⟩ = some (.slice (some ⟨g, 0, none⟩) n c) := by simp [go_sem]
  go_enter Try.func71, Try.ntmps71
  go_wp2
  generalize W.alloc (.cells #[.slice (some ⟨g, 0, none⟩) n c, .slice AR m cR] 63) = W1 at st1 z1 ⊢
  clear hst hb0
  have x1 := st1.cell1 hi
  have x2 := st1.cell2 hi
  have y1 := st1.cell1 hj
  have y2 := st1.cell2 hj
  have f1 := st1.1.frozenAt (i * 2)
  have f2 := st1.1.frozenAt (i * 2 + 1)
  have f3 := st1.1.frozenAt (j * 2)
  have f4 := st1.1.frozenAt (j * 2 + 1)
  have HST : Hid (St w0 (((((W1.setCell ⟨g, i * 2, none⟩ (.int .i64 (it d j).1)).setCell ⟨g, i * 2 + 1, none⟩ (.int .i64 (it d j).2)).setCell ⟨g, j * 2, none⟩ (.int .i64 (it d i).1)).setCell ⟨g, j * 2 + 1, none⟩ (.int .i64 (it d i).2)).drew) base g n c (swp d i j)) := by
    obtain ⟨s1, g1⟩ := st1.1.stored (i * 2) (.int .i64 (it d j).1)
    obtain ⟨s2, g2⟩ := s1.stored (i * 2 + 1) (.int .i64 (it d j).2)
    rw [cI_set] at s2
    obtain ⟨s3, g3⟩ := s2.stored (j * 2) (.int .i64 (it d i).1)
    obtain ⟨s4, g4⟩ := s3.stored (j * 2 + 1) (.int .i64 (it d i).2)
    rw [cI_set] at s4
    have gg := (((st1.2.trans g1).trans g2).trans g3).trans g4
    exact ⟨s4, gg.os, gg.tape, gg.output, gg.size, gg.block⟩
  clear st1
  generalize it d i = a at x1 x2 HST
  generalize it d j = b at y1 y2 HST
  obtain ⟨k, t⟩ := a
  obtain ⟨k', t'⟩ := b
  have e1 := cell_ne (v := .int .i64 t') (b := i * 2 + 1) (cell_ne (v := .int .i64 k') (b := i * 2) y1 (by omega)) (by omega)
  have e2 := cell_ne (v := .int .i64 k) (b := j * 2) (cell_ne (v := .int .i64 t') (b := i * 2 + 1) (cell_ne (v := .int .i64 k') (b := i * 2) y2 (by omega)) (by omega)) (by omega)
  have e3 := cell_ne (v := .int .i64 k') (b := i * 2) x2 (by omega)
  have hi0 : (0 : Int) ≤ (i : Int) := Int.natCast_nonneg _
  have hi1 : (i : Int) < (n : Int) := by omega
  have hj0 : (0 : Int) ≤ (j : Int) := Int.natCast_nonneg _
  have hj1 : (j : Int) < (n : Int) := by omega
  go_region
  all_goals go_end0
  all_goals exact ⟨rfl, HST.out⟩
end Go.Proofs.Ytdojnocmapkodaa

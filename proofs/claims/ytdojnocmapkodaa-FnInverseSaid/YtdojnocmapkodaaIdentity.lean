/- The contract of laws.identity: the order of the keys below n by themselves. -/
import Derived.Test.YtdojnocmapkodaaDigits
namespace Go.Proofs.Ytdojnocmapkodaa
open Go.RowKit
set_option maxHeartbeats 1000000 in
theorem identity_any (n : Nat) (w : World) (hn : n ≤ 17592186044415) : Calls Try.prog 15 #[.int .i64 n] w (OwnOrder (digs n 1 (max n 1)) n w) := by
  have hb0 := (Below.refl w.heap.size w).alloc (Nat.le_refl _) (.cells #[.slice none 0 0] 25)
  have d0 : (w.alloc (.cells #[.slice none 0 0] 25)).cell? ⟨w.heap.size, 0, none⟩ = some (.slice none 0 0) := by simp [go_sem]
  have f0 : (w.alloc (.cells #[.slice none 0 0] 25)).frozen? ⟨w.heap.size, 0, none⟩ = false := by simp [go_sem]
  have hz : w.heap.size < (w.alloc (.cells #[.slice none 0 0] 25)).heap.size := by simp
  rcases Nat.lt_or_ge 1 n with h1 | h1
  · have HM : Hid (max n 1 = n) := by unfold Hid; omega
    rw [HM.out]
    have q1 : (1 : Int) < (n : Int) := by omega
    go_enter Try.func15, Try.ntmps15
    go_wp2_with fail
    generalize w.alloc (.cells #[.slice none 0 0] 25) = W at hb0 d0 f0 hz ⊢
    refine (digitsOf_any n 1 n W hn (by omega) (by omega) (by omega) (by omega)).mono ?_
    rintro e w1 ⟨A, c, rfl, o1, hb1⟩
    have p1 : w1.cell? ⟨w.heap.size, 0, none⟩ = some (.slice none 0 0) := (hb1.cell hz).trans d0
    have p2 : w1.frozen? ⟨w.heap.size, 0, none⟩ = false := (hb1.frozen hz).trans f0
    have o2 : (w1.setCell ⟨w.heap.size, 0, none⟩ (.slice A n c)).ownsRow w.heap.size 3 1 (.slice A n c) n (cZ (digs n 1 n)) := own_base (ownsRow_setCell_below o1 (a := ⟨w.heap.size, 0, none⟩) hz _) (by omega)
    have b2 := (below_step hb0 hb1).setCell (p := ⟨w.heap.size, 0, none⟩) (Nat.le_refl _) (.slice A n c)
    have HO := Lib.hid o2
    clear o1 o2
    go_wp2
    exact bodyPost_ret (v := .agg #[.slice A n c]) (by simp [results, Try.results15, go_sem, p1]) rfl ⟨A, c, rfl, HO.out, b2⟩
  · have HM : Hid (max n 1 = 1) := by unfold Hid; omega
    rw [HM.out]
    have q1 : (n : Int) ≤ 1 := by omega
    have hsp : n = 0 ∨ n = 1 := by omega
    rcases hsp with rfl | rfl
    · go_enter Try.func15, Try.ntmps15
      go_wp2_with fail
      generalize w.alloc (.cells #[.slice none 0 0] 25) = W at hb0 d0 f0 hz ⊢
      refine (digitsOf_any 0 1 1 W hn (by omega) (by omega) (by omega) (by omega)).mono ?_
      rintro e w1 ⟨A, c, rfl, o1, hb1⟩
      have p1 : w1.cell? ⟨w.heap.size, 0, none⟩ = some (.slice none 0 0) := (hb1.cell hz).trans d0
      have p2 : w1.frozen? ⟨w.heap.size, 0, none⟩ = false := (hb1.frozen hz).trans f0
      have o2 := own_base (base' := w.heap.size) (ownsRow_setCell_below o1 (a := ⟨w.heap.size, 0, none⟩) hz (.slice A 0 c)) (by omega)
      have b2 := (below_step hb0 hb1).setCell (p := ⟨w.heap.size, 0, none⟩) (Nat.le_refl _) (.slice A 0 c)
      have HO := Lib.hid o2
      clear o1 o2
      go_wp2
      exact bodyPost_ret (v := .agg #[.slice A 0 c]) (by simp [results, Try.results15, go_sem, p1]) rfl ⟨A, c, rfl, HO.out, b2⟩
    · go_enter Try.func15, Try.ntmps15
      go_wp2_with fail
      generalize w.alloc (.cells #[.slice none 0 0] 25) = W at hb0 d0 f0 hz ⊢
      refine (digitsOf_any 1 1 1 W hn (by omega) (by omega) (by omega) (by omega)).mono ?_
      rintro e w1 ⟨A, c, rfl, o1, hb1⟩
      have p1 : w1.cell? ⟨w.heap.size, 0, none⟩ = some (.slice none 0 0) := (hb1.cell hz).trans d0
      have p2 : w1.frozen? ⟨w.heap.size, 0, none⟩ = false := (hb1.frozen hz).trans f0
      have o2 := own_base (base' := w.heap.size) (ownsRow_setCell_below o1 (a := ⟨w.heap.size, 0, none⟩) hz (.slice A 1 c)) (by omega)
      have b2 := (below_step hb0 hb1).setCell (p := ⟨w.heap.size, 0, none⟩) (Nat.le_refl _) (.slice A 1 c)
      have HO := Lib.hid o2
      clear o1 o2
      go_wp2
      exact bodyPost_ret (v := .agg #[.slice A 1 c]) (by simp [results, Try.results15, go_sem, p1]) rfl ⟨A, c, rfl, HO.out, b2⟩
end Go.Proofs.Ytdojnocmapkodaa

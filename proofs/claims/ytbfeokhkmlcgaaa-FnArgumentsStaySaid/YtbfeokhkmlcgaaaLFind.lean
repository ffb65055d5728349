/- The contracts of Order.compare and impl.FindItem: what they answer for every list of items. -/
import Derived.Test.YtbfeokhkmlcgaaaLBase
import Derived.Test.YtbfeokhkmlcgaaaFind
namespace Go.Proofs.Ytbfeokhkmlcgaaa
open Go.RowKit Go.Shelf
attribute [local go_sem ↓] Go.wp_at_zero Go.wp_at_succ

set_option maxHeartbeats 1000000 in
theorem compare_any (R : List Int) (A : Option Addr) (m c : Nat) (k t k' t' : Int) (w : World) (hr : Rd w w.heap.size 1 A m (cZ R)) :
    Calls Try.prog 36 #[.agg #[.slice A m c], .agg #[.int .i64 k, .int .i64 t], .agg #[.int .i64 k', .int .i64 t']] w
      fun e w' => e = .returned (.int .i64 (cmpI R k k')) ∧ Below w.heap.size w w' := by
  have hb0 := below_alloc3 w (.cells #[.slice A m c] 25) (.cells #[.int .i64 k, .int .i64 t] 28) (.cells #[.int .i64 k', .int .i64 t'] 28)
  have hr0 := hr.on hb0
  have HC : Hid (cmpI R k k' = if rk R k < rk R k' then -1 else if rk R k' < rk R k then 1 else 0) := rfl
  by_cases h1 : rk R k < rk R k'
  · rw [if_pos h1] at HC
    rw [HC.out]
    clear HC
    go_enter Try.func36, Try.ntmps36
    go_wp2_with fail
    refine (before_any R A m c k t k' t' _ hr0).mono ?_
    rintro e w' ⟨rfl, hb⟩
    rw [decide_eq_true h1]
    go_wp2
    go_ret
    exact ⟨rfl, below_step hb0 hb⟩
  · rw [if_neg h1] at HC
    have hd1 : decide (rk R k < rk R k') = false := by simpa using h1
    go_enter Try.func36, Try.ntmps36
    go_wp2_with fail
    refine (before_any R A m c k t k' t' _ hr0).mono ?_
    rintro e w' ⟨rfl, hb⟩
    rw [hd1]
    have c0 : w'.cell? ⟨w.heap.size, 0, none⟩ = some (.slice A m c) := cell_on hb (by simp [go_sem])
    have c1 : w'.cell? ⟨w.heap.size + 1, 0, none⟩ = some (.int .i64 k) := cell_on hb (by simp [go_sem])
    have c2 : w'.cell? ⟨w.heap.size + 1, 1, none⟩ = some (.int .i64 t) := cell_on hb (by simp [go_sem])
    have c3 : w'.cell? ⟨w.heap.size + 1 + 1, 0, none⟩ = some (.int .i64 k') := cell_on hb (by simp [go_sem])
    have c4 : w'.cell? ⟨w.heap.size + 1 + 1, 1, none⟩ = some (.int .i64 t') := cell_on hb (by simp [go_sem])
    have hr1 := hr0.on hb
    have hb1 := below_step hb0 hb
    clear hr hr0 hb hb0
    by_cases h2 : rk R k' < rk R k
    · rw [if_pos h2] at HC
      go_wp2_with fail
      refine (before_any R A m c k' t' k t _ hr1).mono ?_
      rintro e w2 ⟨rfl, hb2⟩
      rw [decide_eq_true h2]
      go_wp2
      go_ret
      exact ⟨by rw [HC.out]; rfl, below_step hb1 hb2⟩
    · rw [if_neg h2] at HC
      have hd2 : decide (rk R k' < rk R k) = false := by simpa using h2
      go_wp2_with fail
      refine (before_any R A m c k' t' k t _ hr1).mono ?_
      rintro e w2 ⟨rfl, hb2⟩
      rw [hd2]
      go_wp2
      go_ret
      exact ⟨by rw [HC.out]; rfl, below_step hb1 hb2⟩

set_option maxHeartbeats 2000000 in
theorem itemTab (R : List Int) (A : Option Addr) (m c : Nat) (l : List (Int × Int)) (AL : Option Addr) (nL cL : Nat) (x : Int × Int) (bo bl bx i : Nat) (W : World)
    (ho : W.cell? ⟨bo, 0, none⟩ = some (.slice A m c)) (hl : W.cell? ⟨bl, 0, none⟩ = some (.slice AL nL cL)) (hx1 : W.cell? ⟨bx, 0, none⟩ = some (.int .i64 x.1)) (hx2 : W.cell? ⟨bx, 1, none⟩ = some (.int .i64 x.2))
    (hr : Rd W W.heap.size 1 A m (cZ R)) (hL : Rd W W.heap.size 2 AL nL (cI l)) (hi : i < nL) :
    Calls Try.prog 35 #[.int .i64 i, .pointer (some ⟨bo, 0, none⟩), .pointer (some ⟨bx, 0, none⟩), .pointer (some ⟨bl, 0, none⟩)] W
      fun e w' => e = .returned (.int .i64 (cItem R l x i)) ∧ Below W.heap.size W w' := by
  obtain ⟨b, off, rfl, hb, h1, h2⟩ := rdI_at hL hi
  have HR : Hid (∀ W', Below W.heap.size W W' → Rd W' W'.heap.size 1 A m (cZ R)) := fun W' hb => hr.on hb
  have HP : Hid (cItem R l x i = cmpI R x.1 (it l i).1) := rfl
  clear hr hL
  obtain ⟨k', t'⟩ := x
  obtain ⟨⟨k, t⟩, hk⟩ : ∃ y, y = it l i := ⟨_, rfl⟩
  rw [← hk] at h1 h2 HP
  rw [HP.out]
  clear HP hk
  have hi0 : (0 : Int) ≤ (i : Int) := Int.natCast_nonneg _
  have hi1 : (i : Int) < (nL : Int) := by omega
  go_enter Try.func35, Try.ntmps35
  go_wp2
  go_region_held3 (fun w' => w'.cell? ⟨bo, 0, none⟩ = some (.slice A m c) ∧ w'.cell? ⟨bl, 0, none⟩ = some (.slice (some ⟨b, off, none⟩) nL cL) ∧ w'.cell? ⟨b, off + i * 2, none⟩ = some (.int .i64 k) ∧ w'.cell? ⟨b, off + i * 2 + 1, none⟩ = some (.int .i64 t) ∧ w'.cell? ⟨bx, 0, none⟩ = some (.int .i64 k') ∧ w'.cell? ⟨bx, 1, none⟩ = some (.int .i64 t') ∧ Below W.heap.size W w')
    (first | (exact ⟨ho, hl, h1, h2, hx1, hx2, (Below.refl _ _).drew⟩) | (go_split_ands; exact ⟨cell_on hbc (by assumption), cell_on hbc (by assumption), cell_on hbc (by assumption), cell_on hbc (by assumption), cell_on hbc (by assumption), cell_on hbc (by assumption), below_step (by assumption) hbc⟩))
    (first | (go_at_call 36; go_split_ands; refine (compare_any R A m c _ _ _ _ _ (HR.out _ (by assumption))).mono ?_; rintro e w' ⟨rfl, hbc⟩))
  all_goals
    go_wp2
    go_ret
    exact ⟨rfl, by go_split_ands; assumption⟩

theorem enters_itemTab : ∀ args w, (callFunc 35 args).run Try.prog w = .ok (.enter 35 args) w := enters_of Try.func35 (by kernel_rfl) rfl

set_option maxHeartbeats 1000000 in
theorem FindItem_any (R : List Int) (A : Option Addr) (m c : Nat) (l : List (Int × Int)) (AL : Option Addr) (nL cL : Nat) (x : Int × Int) (w : World)
    (hr : Rd w w.heap.size 1 A m (cZ R)) (hL : Rd w w.heap.size 2 AL nL (cI l)) (hn : nL ≤ 9223372036854775807) :
    Calls Try.prog 17 #[.slice AL nL cL, .agg #[.int .i64 x.1, .int .i64 x.2], .agg #[.slice A m c]] w (CutFound (cItem R l x) nL w) := by
  have hT : Says 35 #[.pointer (some ⟨w.heap.size + 1 + 1, 0, none⟩), .pointer (some ⟨w.heap.size + 1, 0, none⟩), .pointer (some ⟨w.heap.size, 0, none⟩)] (boxed w AL nL cL x A m c) nL (cItem R l x) := by
    intro W i hb hi
    exact itemTab R A m c l AL nL cL x _ _ _ i W (boxed_o hb) (boxed_l hb) (boxed_x1 hb) (boxed_x2 hb) ((hr.on (boxed_below ..)).on hb) ((hL.on (boxed_below ..)).on hb) hi
  have HS := Lib.hid (find_any _ _ nL (cItem R l x) _ enters_itemTab hn hT)
  clear hT hr hL
  go_enter Try.func17, Try.ntmps17
  go_wp2_with fail
  refine HS.out.mono ?_
  rintro e w' ⟨r, hc, rfl, hb⟩
  go_wp2
  go_ret2
  exact ⟨r, hc, rfl, below_step (boxed_below ..) hb⟩
end Go.Proofs.Ytbfeokhkmlcgaaa

/- The contract of impl.SearchPast: what it answers for every list of items. -/
import Derived.Test.YtdojnocmapkodaaLBase
namespace Go.Proofs.Ytdojnocmapkodaa
open Go.RowKit Go.Shelf
attribute [local go_sem ↓] Go.wp_at_zero Go.wp_at_succ

set_option maxHeartbeats 2000000 in
theorem pastTab (R : List Int) (A : Option Addr) (m c : Nat) (l : List (Int × Int)) (AL : Option Addr) (nL cL : Nat) (x : Int × Int) (bo bl bx i : Nat) (W : World)
    (ho : W.cell? ⟨bo, 0, none⟩ = some (.slice A m c)) (hl : W.cell? ⟨bl, 0, none⟩ = some (.slice AL nL cL)) (hx1 : W.cell? ⟨bx, 0, none⟩ = some (.int .i64 x.1)) (hx2 : W.cell? ⟨bx, 1, none⟩ = some (.int .i64 x.2))
    (hr : Rd W W.heap.size 1 A m (cZ R)) (hL : Rd W W.heap.size 2 AL nL (cI l)) (hi : i < nL) :
    Calls Try.prog 40 #[.int .i64 i, .pointer (some ⟨bo, 0, none⟩), .pointer (some ⟨bx, 0, none⟩), .pointer (some ⟨bl, 0, none⟩)] W
      fun e w' => e = .returned (.bool (pPast R l x i)) ∧ Below W.heap.size W w' := by
  obtain ⟨b, off, rfl, hb, h1, h2⟩ := rdI_at hL hi
  have HR : Hid (∀ W', Below W.heap.size W W' → Rd W' W'.heap.size 1 A m (cZ R)) := fun W' hb => hr.on hb
  have HP : Hid (pPast R l x i = decide (rk R x.1 < rk R (it l i).1)) := rfl
  clear hr hL
  obtain ⟨k', t'⟩ := x
  obtain ⟨⟨k, t⟩, hk⟩ : ∃ y, y = it l i := ⟨_, rfl⟩
  rw [← hk] at h1 h2 HP
  rw [HP.out]
  clear HP hk
  have hi0 : (0 : Int) ≤ (i : Int) := Int.natCast_nonneg _
  have hi1 : (i : Int) < (nL : Int) := by omega
  go_enter Try.func40, Try.ntmps40
  go_wp2
  go_region_held3 (fun w' => w'.cell? ⟨bo, 0, none⟩ = some (.slice A m c) ∧ w'.cell? ⟨bl, 0, none⟩ = some (.slice (some ⟨b, off, none⟩) nL cL) ∧ w'.cell? ⟨b, off + i * 2, none⟩ = some (.int .i64 k) ∧ w'.cell? ⟨b, off + i * 2 + 1, none⟩ = some (.int .i64 t) ∧ w'.cell? ⟨bx, 0, none⟩ = some (.int .i64 k') ∧ w'.cell? ⟨bx, 1, none⟩ = some (.int .i64 t') ∧ Below W.heap.size W w')
    (first | (exact ⟨ho, hl, h1, h2, hx1, hx2, (Below.refl _ _).drew⟩) | (go_split_ands; exact ⟨cell_on hbc (by assumption), cell_on hbc (by assumption), cell_on hbc (by assumption), cell_on hbc (by assumption), cell_on hbc (by assumption), cell_on hbc (by assumption), below_step (by assumption) hbc⟩))
    (first | (go_at_call 39; go_split_ands; refine (before_any R A m c _ _ _ _ _ (HR.out _ (by assumption))).mono ?_; rintro e w' ⟨rfl, hbc⟩))
  all_goals
    go_wp2
    go_ret
    exact ⟨rfl, by go_split_ands; assumption⟩

theorem enters_pastTab : ∀ args w, (callFunc 40 args).run Try.prog w = .ok (.enter 40 args) w := enters_of Try.func40 (by kernel_rfl) rfl

set_option maxHeartbeats 1000000 in
theorem SearchPast_any (R : List Int) (A : Option Addr) (m c : Nat) (l : List (Int × Int)) (AL : Option Addr) (nL cL : Nat) (x : Int × Int) (w : World)
    (hr : Rd w w.heap.size 1 A m (cZ R)) (hL : Rd w w.heap.size 2 AL nL (cI l)) (hn : nL ≤ 9223372036854775807) :
    Calls Try.prog 29 #[.slice AL nL cL, .agg #[.int .i64 x.1, .int .i64 x.2], .agg #[.slice A m c]] w (CutInt (pPast R l x) nL w) := by
  have hT : Tells 40 #[.pointer (some ⟨w.heap.size + 1 + 1, 0, none⟩), .pointer (some ⟨w.heap.size + 1, 0, none⟩), .pointer (some ⟨w.heap.size, 0, none⟩)] (boxed w AL nL cL x A m c) nL (pPast R l x) := by
    intro W i hb hi
    exact pastTab R A m c l AL nL cL x _ _ _ i W (boxed_o hb) (boxed_l hb) (boxed_x1 hb) (boxed_x2 hb) ((hr.on (boxed_below ..)).on hb) ((hL.on (boxed_below ..)).on hb) hi
  have HS := Lib.hid (search_any _ _ nL (pPast R l x) _ enters_pastTab hn hT)
  clear hT hr hL
  go_enter Try.func29, Try.ntmps29
  go_wp2_with fail
  refine HS.out.mono ?_
  rintro e w' ⟨r, hc, rfl, hb⟩
  go_wp2
  go_ret
  exact ⟨r, hc, rfl, below_step (boxed_below ..) hb⟩
end Go.Proofs.Ytdojnocmapkodaa

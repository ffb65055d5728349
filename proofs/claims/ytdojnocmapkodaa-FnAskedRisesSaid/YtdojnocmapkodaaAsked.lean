/- The contract of impl.Asked: in a sorted list each question has the answer that it has alone. -/
import Derived.Test.YtdojnocmapkodaaLBase
import Derived.Test.YtdojnocmapkodaaCountsPlain
import Derived.Test.YtdojnocmapkodaaOpenMore
import Derived.Test.YtdojnocmapkodaaElems
import Derived.Test.YtdojnocmapkodaaSteps
namespace Go.Proofs.Ytdojnocmapkodaa
open Go.RowKit Go.Shelf
attribute [local go_sem ↓] Go.wp_at_zero Go.wp_at_succ
theorem cZ_snocA (l : List Int) (x : Int) : cZ l ++ (#[Value.int .i64 x] : Array Value).toList = cZ (l ++ [x]) := by simp [cZ]
/-- What is asked of an element. -/
def pAsk (R : List Int) (l : List (Int × Int)) (q : Bool × (Int × Int)) (i : Nat) : Bool := if q.1 = true then pPast R l q.2 i else pFirst R l q.2 i
/-- The answer. -/
def ansN (R : List Int) (l : List (Int × Int)) (q : Bool × (Int × Int)) : Nat := if q.1 = true then less R l q.2.1 + eqs R l q.2.1 else less R l q.2.1
theorem ask_step {R : List Int} {l : List (Int × Int)} (h : Srt (rI R) l) (q : Bool × (Int × Int)) : Step (pAsk R l q) l.length (ansN R l q) := by
  obtain ⟨b, x⟩ := q
  cases b
  · exact first_step h x
  · exact past_step h x
def answers (R : List Int) (l : List (Int × Int)) (qs : List (Bool × (Int × Int))) : List Int := qs.map fun q => (ansN R l q : Int)
theorem answers_snoc (R : List Int) (l : List (Int × Int)) (qs : List (Bool × (Int × Int))) (k : Nat) (h : k < qs.length) : answers R l (qs.take (k + 1)) = answers R l (qs.take k) ++ [(ansN R l (itQ qs k) : Int)] := by
  unfold answers
  rw [take_snoc qs k h, List.map_append, itQ_lt h]
  rfl

set_option maxHeartbeats 2000000 in
theorem askTab (R : List Int) (A : Option Addr) (m c : Nat) (l : List (Int × Int)) (AL : Option Addr) (nL cL : Nat) (q : Bool × (Int × Int)) (bo bl bq i : Nat) (W : World)
    (ho : W.cell? ⟨bo, 0, none⟩ = some (.slice A m c)) (hl : W.cell? ⟨bl, 0, none⟩ = some (.slice AL nL cL)) (hq0 : W.cell? ⟨bq, 0, none⟩ = some (.bool q.1)) (hq1 : W.cell? ⟨bq, 1, none⟩ = some (.int .i64 q.2.1)) (hq2 : W.cell? ⟨bq, 2, none⟩ = some (.int .i64 q.2.2))
    (hr : Rd W W.heap.size 1 A m (cZ R)) (hL : Rd W W.heap.size 2 AL nL (cI l)) (hi : i < nL) :
    Calls Try.prog 41 #[.int .i64 i, .pointer (some ⟨bq, 0, none⟩), .pointer (some ⟨bo, 0, none⟩), .pointer (some ⟨bl, 0, none⟩)] W
      fun e w' => e = .returned (.bool (pAsk R l q i)) ∧ Below W.heap.size W w' := by
  obtain ⟨b, off, rfl, hb, h1, h2⟩ := rdI_at hL hi
  have HR : Hid (∀ W', Below W.heap.size W W' → Rd W' W'.heap.size 1 A m (cZ R)) := fun W' hb => hr.on hb
  clear hr hL
  obtain ⟨o, k', t'⟩ := q
  dsimp only at hq0 hq1 hq2
  have hi0 : (0 : Int) ≤ (i : Int) := Int.natCast_nonneg _
  have hi1 : (i : Int) < (nL : Int) := by omega
  cases o
  · have HP : Hid (pAsk R l (false, (k', t')) i = !decide (rk R (it l i).1 < rk R k')) := rfl
    obtain ⟨⟨k, t⟩, hk⟩ : ∃ y, y = it l i := ⟨_, rfl⟩
    rw [← hk] at h1 h2 HP
    rw [HP.out]
    clear HP hk
    go_enter Try.func41, Try.ntmps41
    go_wp2_with fail
    go_region_held3 (fun w' => w'.cell? ⟨bo, 0, none⟩ = some (.slice A m c) ∧ w'.cell? ⟨bl, 0, none⟩ = some (.slice (some ⟨b, off, none⟩) nL cL) ∧ w'.cell? ⟨b, off + i * 2, none⟩ = some (.int .i64 k) ∧ w'.cell? ⟨b, off + i * 2 + 1, none⟩ = some (.int .i64 t) ∧ w'.cell? ⟨bq, 1, none⟩ = some (.int .i64 k') ∧ w'.cell? ⟨bq, 2, none⟩ = some (.int .i64 t') ∧ Below W.heap.size W w')
      (first | (exact ⟨ho, hl, h1, h2, hq1, hq2, (Below.refl _ _).drew⟩) | (go_split_ands; exact ⟨cell_on hbc (by assumption), cell_on hbc (by assumption), cell_on hbc (by assumption), cell_on hbc (by assumption), cell_on hbc (by assumption), cell_on hbc (by assumption), below_step (by assumption) hbc⟩))
      (first | (go_at_call 39; go_split_ands; refine (before_any R A m c _ _ _ _ _ (HR.out _ (by assumption))).mono ?_; rintro e w' ⟨rfl, hbc⟩))
    all_goals
      go_wp2
      go_ret
      exact ⟨rfl, by go_split_ands; assumption⟩
  · have HP : Hid (pAsk R l (true, (k', t')) i = decide (rk R k' < rk R (it l i).1)) := rfl
    obtain ⟨⟨k, t⟩, hk⟩ : ∃ y, y = it l i := ⟨_, rfl⟩
    rw [← hk] at h1 h2 HP
    rw [HP.out]
    clear HP hk
    go_enter Try.func41, Try.ntmps41
    go_wp2_with fail
    go_region_held3 (fun w' => w'.cell? ⟨bo, 0, none⟩ = some (.slice A m c) ∧ w'.cell? ⟨bl, 0, none⟩ = some (.slice (some ⟨b, off, none⟩) nL cL) ∧ w'.cell? ⟨b, off + i * 2, none⟩ = some (.int .i64 k) ∧ w'.cell? ⟨b, off + i * 2 + 1, none⟩ = some (.int .i64 t) ∧ w'.cell? ⟨bq, 1, none⟩ = some (.int .i64 k') ∧ w'.cell? ⟨bq, 2, none⟩ = some (.int .i64 t') ∧ Below W.heap.size W w')
      (first | (exact ⟨ho, hl, h1, h2, hq1, hq2, (Below.refl _ _).drew⟩) | (go_split_ands; exact ⟨cell_on hbc (by assumption), cell_on hbc (by assumption), cell_on hbc (by assumption), cell_on hbc (by assumption), cell_on hbc (by assumption), cell_on hbc (by assumption), below_step (by assumption) hbc⟩))
      (first | (go_at_call 39; go_split_ands; refine (before_any R A m c _ _ _ _ _ (HR.out _ (by assumption))).mono ?_; rintro e w' ⟨rfl, hbc⟩))
    all_goals
      go_wp2
      go_ret
      exact ⟨rfl, by go_split_ands; assumption⟩

theorem enters_askTab : ∀ args w, (callFunc 41 args).run Try.prog w = .ok (.enter 41 args) w := enters_of Try.func41 (by kernel_rfl) rfl

set_option maxHeartbeats 2000000 in
theorem Asked_any (R : List Int) (A : Option Addr) (m c : Nat) (l : List (Int × Int)) (AL : Option Addr) (nL cL : Nat) (qs : List (Bool × (Int × Int))) (AQ : Option Addr) (nQ cQ' : Nat) (w : World)
    (hr : Rd w w.heap.size 1 A m (cZ R)) (hL : Rd w w.heap.size 2 AL nL (cI l)) (hQ : Rd w w.heap.size 3 AQ nQ (cQ qs)) (hs : Srt (rI R) l) (hn : nL ≤ 9223372036854775807) (hnQ : nQ * 8 ≤ 140737488351232) :
    Calls Try.prog 30 #[.slice AL nL cL, .agg #[.slice A m c], .slice AQ nQ cQ'] w (OwnList 3 1 (cZ (answers R l qs)) nQ w) := by
  have HLL := Lib.hid (rdI_len hL)
  have HLQ := Lib.hid (rdQ_len hQ)
  have HS := Lib.hid hs
  clear hs
  have hb0 := below_alloc2 w (.cells #[.slice AL nL cL] 22) (.cells #[.slice A m c] 25)
  have dl : ((w.alloc (.cells #[.slice AL nL cL] 22)).alloc (.cells #[.slice A m c] 25)).cell? ⟨w.heap.size, 0, none⟩ = some (.slice AL nL cL) := by simp [go_sem]
  have d_o : ((w.alloc (.cells #[.slice AL nL cL] 22)).alloc (.cells #[.slice A m c] 25)).cell? ⟨w.heap.size + 1, 0, none⟩ = some (.slice A m c) := by simp [go_sem]
  have rl := Lib.hid (hL.on hb0)
  have rr := Lib.hid (hr.on hb0)
  have rq := Lib.hid (hQ.on hb0)
  clear hr hL hQ
  go_enter Try.func30, Try.ntmps30
  go_wp2
  generalize (w.alloc (.cells #[.slice AL nL cL] 22)).alloc (.cells #[.slice A m c] 25) = W at *
  go_loopw [7, 12] (fun v s wr => ∃ (k : Nat) (B : Option Addr) (d : Nat), k ≤ nQ ∧ s = .int .i64 k ∧ v = .slice B k d ∧ wr.ownsRow W.heap.size 3 1 (.slice B k d) k (cZ (answers R l (qs.take k))) ∧ Below W.heap.size W wr) (fun _ s _ => nQ - (intOf s).toNat)
  case atStart => exact ⟨0, none, 0, Nat.zero_le _, rfl, rfl, own_nil _ _ _ _, Below.refl _ _⟩
  case round =>
    obtain ⟨k, B, d, hk, rfl, rfl, hown, hbel⟩ := hrel
    by_cases hlt : k < nQ
    · obtain ⟨b, off, rfl, _, hc0, hc1, hc2⟩ := rdQ_at (k := k) (rq.out.on hbel) hlt
      have T := Lib.hid (answers_snoc R l qs k (by rw [HLQ.out]; exact hlt))
      obtain ⟨q, hq⟩ : ∃ q, q = itQ qs k := ⟨_, rfl⟩
      rw [← hq] at hc0 hc1 hc2 T
      clear hq
      have hbx := hbel.alloc hbel.size (.cells #[.bool q.1, .int .i64 q.2.1, .int .i64 q.2.2] 56)
      have tl := cell_on hbx dl
      have to := cell_on hbx d_o
      have y0 : (wr.alloc (.cells #[.bool q.1, .int .i64 q.2.1, .int .i64 q.2.2] 56)).cell? ⟨wr.heap.size, 0, none⟩ = some (.bool q.1) := by simp [go_sem]
      have y1 : (wr.alloc (.cells #[.bool q.1, .int .i64 q.2.1, .int .i64 q.2.2] 56)).cell? ⟨wr.heap.size, 1, none⟩ = some (.int .i64 q.2.1) := by simp [go_sem]
      have y2 : (wr.alloc (.cells #[.bool q.1, .int .i64 q.2.1, .int .i64 q.2.2] 56)).cell? ⟨wr.heap.size, 2, none⟩ = some (.int .i64 q.2.2) := by simp [go_sem]
      have o2 := hown.alloc (.cells #[.bool q.1, .int .i64 q.2.1, .int .i64 q.2.2] 56)
      have hT : Tells 41 #[.pointer (some ⟨wr.heap.size, 0, none⟩), .pointer (some ⟨w.heap.size + 1, 0, none⟩), .pointer (some ⟨w.heap.size, 0, none⟩)] (wr.alloc (.cells #[.bool q.1, .int .i64 q.2.1, .int .i64 q.2.2] 56)) nL (pAsk R l q) := by
        intro W' i hb hi
        exact askTab R A m c l AL nL cL q _ _ _ i W' (cell_on hb to) (cell_on hb tl) (cell_on hb y0) (cell_on hb y1) (cell_on hb y2) ((rr.out.on hbx).on hb) ((rl.out.on hbx).on hb) hi
      have HSA := Lib.hid (search_any _ _ nL (pAsk R l q) _ enters_askTab hn hT)
      have hst := Lib.hid (ask_step HS.out q)
      rw [HLL.out] at hst
      have HO := Lib.hid o2
      clear hT hown o2
      go_wp2_with (first
        | (go_at_call 36; refine HSA.out.mono ?_; rintro e w3 ⟨r, hcut, rfl, hb3⟩; have HR := Lib.hid (hst.out.cut hcut); clear hcut; have o3 := own_on HO.out hb3; have b3 := below_step hbx hb3)
        | (at_builtin; refine wpList_app eZ rfl _ _ rfl W.heap.size w3 B k d _ rfl o3 #[.int .i64 (r : Int)] rfl rfl (one_int _ _) (by omega) (by unfold maxLen; omega) b3.size ?_; rintro g cap w4 ⟨o4, bl4, _, _, _⟩))
      rw [cZ_snocA, HR.out, ← T.out] at o4
      have b4 := b3.trans bl4
      clear HSA o3
      go_roundw
      case rel => exact ⟨k + 1, some ⟨g, 0, none⟩, cap, by omega, by go_num, rfl, o4, b4⟩
      case measure => simp [intOf]; omega
    · obtain rfl : k = nQ := by omega
      rw [List.take_of_length_le (by rw [HLQ.out]; exact Nat.le_refl _)] at hown
      have o5 := own_base (base' := w.heap.size) hown hb0.size
      have b5 := below_step hb0 hbel
      clear hown
      go_wp2
      go_ret
      exact ⟨B, d, rfl, o5, b5⟩
end Go.Proofs.Ytdojnocmapkodaa

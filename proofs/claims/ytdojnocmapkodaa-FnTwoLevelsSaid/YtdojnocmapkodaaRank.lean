/- The contracts of the ranks: spec.Rank, laws.rank, Order.rank, Order.before. -/
import Derived.Test.YtdojnocmapkodaaChecked
import Derived.Test.YtdojnocmapkodaaWords
import Derived.Deep.RegionHeld3
import Derived.Deep.DrawnRows
import Derived.Outline
namespace Go.Proofs.Ytdojnocmapkodaa
open Go.RowKit
attribute [local go_sem ↓] Go.wp_at_zero Go.wp_at_succ

/-- The rank of a key. -/
def rk (R : List Int) (k : Int) : Int := if k < 0 then 0 else R[k.toNat]?.getD 0
theorem rk_neg {R : List Int} {k : Int} (h : k < 0) : rk R k = 0 := by simp [rk, h]
theorem rk_ge {R : List Int} {k : Int} (h : (R.length : Int) ≤ k) : rk R k = 0 := by
  unfold rk
  split
  · rfl
  · rw [List.getElem?_eq_none (by omega)]; rfl
theorem rk_in {R : List Int} {k : Int} (h : 0 ≤ k) : rk R k = R[k.toNat]?.getD 0 := by unfold rk; rw [if_neg (by omega)]

set_option maxHeartbeats 400000 in
theorem Rank_any (R : List Int) (A : Option Addr) (m c : Nat) (k : Int) (w : World) (hr : Rd w w.heap.size 1 A m (cZ R)) :
    Calls Try.prog 45 #[.slice A m c, .int .i64 k] w fun e w' => e = .returned (.int .i64 (rk R k)) ∧ w = w' := by
  have hl := rdZ_len hr
  by_cases h0 : k < 0
  · rw [rk_neg h0]
    clear hr hl
    go_enter Try.func45, Try.ntmps45
    go_wp2
    go_ret
    exact ⟨rfl, rfl⟩
  · have hd : decide (k < 0) = false := by simpa using h0
    by_cases h1 : k < m
    · obtain ⟨b, off, rfl, _, hc⟩ := rdZ_at (k := k.toNat) hr (by omega)
      rw [rk_in (by omega)]
      have hd1 : decide ((m : Int) ≤ k) = false := by simp; omega
      clear hr hl
      go_enter Try.func45, Try.ntmps45
      go_wp2
      go_ret
      exact ⟨rfl, rfl⟩
    · rw [rk_ge (by omega)]
      clear hr hl
      go_enter Try.func45, Try.ntmps45
      go_wp2
      go_ret
      exact ⟨rfl, rfl⟩

theorem below_alloc2 (w : World) (o o' : Obj) : Below w.heap.size w ((w.alloc o).alloc o') := ((Below.refl _ _).alloc (Nat.le_refl _) _).alloc (by simp) _

set_option maxHeartbeats 400000 in
theorem irank_any (R : List Int) (A : Option Addr) (m c : Nat) (k t : Int) (w : World) (hr : Rd w w.heap.size 1 A m (cZ R)) :
    Calls Try.prog 48 #[.agg #[.slice A m c], .agg #[.int .i64 k, .int .i64 t]] w fun e w' => e = .returned (.int .i64 (rk R k)) ∧ Below w.heap.size w w' := by
  have hl := rdZ_len hr
  by_cases h0 : k < 0
  · rw [rk_neg h0]
    clear hr hl
    go_enter Try.func48, Try.ntmps48
    go_wp2
    go_ret
    exact ⟨rfl, below_alloc2 w _ _⟩
  · have hd : decide (k < 0) = false := by simpa using h0
    by_cases h1 : k < m
    · obtain ⟨b, off, rfl, hb, hc⟩ := rdZ_at (k := k.toNat) hr (by omega)
      rw [rk_in (by omega)]
      have hd1 : decide ((m : Int) ≤ k) = false := by simp; omega
      clear hr hl
      go_enter Try.func48, Try.ntmps48
      go_wp2
      go_ret
      exact ⟨rfl, below_alloc2 w _ _⟩
    · rw [rk_ge (by omega)]
      clear hr hl
      go_enter Try.func48, Try.ntmps48
      go_wp2
      go_ret
      exact ⟨rfl, below_alloc2 w _ _⟩

theorem below_alloc3 (w : World) (o o' o'' : Obj) : Below w.heap.size w (((w.alloc o).alloc o').alloc o'') := (((Below.refl _ _).alloc (Nat.le_refl _) _).alloc (by simp) _).alloc (by simp; omega) _

theorem cell_on {W w' : World} (hb : Below W.heap.size W w') {a : Addr} {v : Value} (h : W.cell? a = some v) : w'.cell? a = some v := (hb.cell (World.block_lt_of_cell? _ _ h)).trans h

/-- One step of a run: what was there is as it was. (A name of its own: behind each world just one step leads to it.) -/
def Nxt (w w' : World) : Prop := Below w.heap.size w w'
theorem nx {w w' : World} (h : Below w.heap.size w w') : Nxt w w' := h
theorem nx_cell {W w' : World} (hb : Nxt W w') {a : Addr} {v : Value} (h : W.cell? a = some v) : w'.cell? a = some v := cell_on hb h
theorem nx_step {a b c : World} (h : Below a.heap.size a b) (k : Nxt b c) : Below a.heap.size a c := below_step h k

set_option maxHeartbeats 1000000 in
theorem before_any (R : List Int) (A : Option Addr) (m c : Nat) (k t k' t' : Int) (w : World) (hr : Rd w w.heap.size 1 A m (cZ R)) :
    Calls Try.prog 39 #[.agg #[.slice A m c], .agg #[.int .i64 k, .int .i64 t], .agg #[.int .i64 k', .int .i64 t']] w
      fun e w' => e = .returned (.bool (decide (rk R k < rk R k'))) ∧ Below w.heap.size w w' := by
  have HR : Hid (∀ W, Below w.heap.size w W → Rd W W.heap.size 1 A m (cZ R)) := fun W hb => hr.on hb
  clear hr
  go_enter Try.func39, Try.ntmps39
  go_wp2
  have hb0 := below_alloc3 w (.cells #[.slice A m c] 25) (.cells #[.int .i64 k, .int .i64 t] 27) (.cells #[.int .i64 k', .int .i64 t'] 27)
  have c0 : (((w.alloc (.cells #[.slice A m c] 25)).alloc (.cells #[.int .i64 k, .int .i64 t] 27)).alloc (.cells #[.int .i64 k', .int .i64 t'] 27)).cell? ⟨w.heap.size, 0, none⟩ = some (.slice A m c) := by simp [go_sem]
  have c1 : (((w.alloc (.cells #[.slice A m c] 25)).alloc (.cells #[.int .i64 k, .int .i64 t] 27)).alloc (.cells #[.int .i64 k', .int .i64 t'] 27)).cell? ⟨w.heap.size + 1, 0, none⟩ = some (.int .i64 k) := by simp [go_sem]
  have c2 : (((w.alloc (.cells #[.slice A m c] 25)).alloc (.cells #[.int .i64 k, .int .i64 t] 27)).alloc (.cells #[.int .i64 k', .int .i64 t'] 27)).cell? ⟨w.heap.size + 1, 1, none⟩ = some (.int .i64 t) := by simp [go_sem]
  have c3 : (((w.alloc (.cells #[.slice A m c] 25)).alloc (.cells #[.int .i64 k, .int .i64 t] 27)).alloc (.cells #[.int .i64 k', .int .i64 t'] 27)).cell? ⟨w.heap.size + 1 + 1, 0, none⟩ = some (.int .i64 k') := by simp [go_sem]
  have c4 : (((w.alloc (.cells #[.slice A m c] 25)).alloc (.cells #[.int .i64 k, .int .i64 t] 27)).alloc (.cells #[.int .i64 k', .int .i64 t'] 27)).cell? ⟨w.heap.size + 1 + 1, 1, none⟩ = some (.int .i64 t') := by simp [go_sem]
  generalize ((w.alloc (.cells #[.slice A m c] 25)).alloc (.cells #[.int .i64 k, .int .i64 t] 27)).alloc (.cells #[.int .i64 k', .int .i64 t'] 27) = W at hb0 c0 c1 c2 c3 c4 ⊢
  go_region_held3 (fun w' => w'.cell? ⟨w.heap.size, 0, none⟩ = some (.slice A m c) ∧ w'.cell? ⟨w.heap.size + 1, 0, none⟩ = some (.int .i64 k) ∧ w'.cell? ⟨w.heap.size + 1, 1, none⟩ = some (.int .i64 t) ∧ w'.cell? ⟨w.heap.size + 1 + 1, 0, none⟩ = some (.int .i64 k') ∧ w'.cell? ⟨w.heap.size + 1 + 1, 1, none⟩ = some (.int .i64 t') ∧ Below w.heap.size w w')
    (first | (exact ⟨c0, c1, c2, c3, c4, hb0.drew⟩) | (go_split_ands; exact ⟨cell_on hbc (by assumption), cell_on hbc (by assumption), cell_on hbc (by assumption), cell_on hbc (by assumption), cell_on hbc (by assumption), below_step (by assumption) hbc⟩))
    (first | (go_at_call 48; go_split_ands; refine (irank_any R A m c _ _ _ (HR.out _ (by assumption))).mono ?_; rintro e w' ⟨rfl, hbc⟩))
  all_goals
    go_wp2
    go_ret
    exact ⟨rfl, by go_split_ands; assumption⟩
end Go.Proofs.Ytdojnocmapkodaa

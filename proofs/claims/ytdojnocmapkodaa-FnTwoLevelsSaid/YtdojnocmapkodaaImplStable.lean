/- The contracts of Go's sort.Stable and of impl.Stable. -/
import Derived.Test.YtdojnocmapkodaaStable
import Derived.Test.YtdojnocmapkodaaAppAll
import Derived.Test.YtdojnocmapkodaaElems
namespace Go.Proofs.Ytdojnocmapkodaa
open Go.RowKit

set_option maxHeartbeats 4000000 in
theorem insertionSort_none (v : Value) (W : World) : Calls Try.prog 49 #[v, .int .i64 0, .int .i64 0] W fun e w' => e = .returned (.tuple #[]) ∧ Below W.heap.size W w' := by
  go_enter Try.func49, Try.ntmps49
  go_wp2
  go_loopw [6] (fun vi wr => vi = .int .i64 1 ∧ W = wr) (fun _ _ => 0)
  case atStart => exact ⟨rfl, rfl⟩
  case round =>
    obtain ⟨rfl, rfl⟩ := hrel
    go_wp2
    go_end0
    exact ⟨rfl, Below.refl _ _⟩
set_option maxHeartbeats 4000000 in
theorem stable_none (v : Value) (W : World) : Calls Try.prog 47 #[v, .int .i64 0] W fun e w' => e = .returned (.tuple #[]) ∧ Below W.heap.size W w' := by
  have HI := Lib.hid (fun W => insertionSort_none v W)
  go_enter Try.func47, Try.ntmps47
  go_wp2
  go_loopw [5, 6] (fun va vb wr => va = .int .i64 0 ∧ vb = .int .i64 20 ∧ W = wr) (fun _ _ _ => 0)
  case atStart => exact ⟨rfl, rfl, rfl⟩
  case round =>
    obtain ⟨rfl, rfl, rfl⟩ := hrel
    go_wp2_with (first | (go_at_call 49; refine (HI.out _).mono ?_; rintro e w1 ⟨rfl, hb1⟩) | fail)
    go_loopw [4] (fun vs wr => vs = .int .i64 20 ∧ w1 = wr) (fun _ _ => 0)
    case atStart => exact ⟨rfl, rfl⟩
    case round =>
      obtain ⟨rfl, rfl⟩ := hrel
      go_wp2_with fail
      go_end0
      exact ⟨rfl, hb1⟩

set_option maxHeartbeats 4000000 in
theorem SortStable_any (R : List Int) (AR : Option Addr) (m cR : Nat) (w0 W : World) (base g n c : Nat) (d : List (Int × Int)) (hst : St w0 W base g n c d) (hr : Rd w0 base 1 AR m (cZ R)) (hbw : base ≤ w0.heap.size) (hn : n ≤ 1152921504606846976) :
    Calls Try.prog 34 #[.iface 63 (.agg #[.slice (some ⟨g, 0, none⟩) n c, .slice AR m cR])] W fun e w' => e = .returned (.tuple #[]) ∧ St w0 w' base g n c (stab (rJ R) d) := by
  have mN := mLen (some ⟨g, 0, none⟩) AR n c m cR
  have HL := Lib.hid (dLen_any (some ⟨g, 0, none⟩) AR n c m cR W)
  have HS : Hid (∀ W', Below W.heap.size W W' → Calls Try.prog 47 #[.iface 63 (.agg #[.slice (some ⟨g, 0, none⟩) n c, .slice AR m cR]), .int .i64 n] W' fun e w' => e = .returned (.tuple #[]) ∧ St w0 w' base g n c (stab (rJ R) d)) := fun W' hb => sstable_any R AR m cR w0 W' base g n c d (hst.on hb) hr hbw hn
  clear hst hr
  go_enter Try.func34, Try.ntmps34
  go_wp2_with (first
    | (go_at_call 69; refine HL.out.mono ?_; rintro e w' ⟨rfl, hb1⟩)
    | (go_at_call 47; refine (HS.out _ (by assumption)).mono ?_; rintro e w2 ⟨rfl, hb2⟩))
  go_end0
  exact ⟨rfl, hb2⟩
set_option maxHeartbeats 4000000 in
theorem SortStable_none (AR : Option Addr) (m cR : Nat) (W : World) :
    Calls Try.prog 34 #[.iface 63 (.agg #[.slice none 0 0, .slice AR m cR])] W fun e w' => e = .returned (.tuple #[]) ∧ Below W.heap.size W w' := by
  have mN := mLen none AR 0 0 m cR
  have HL := Lib.hid (dLen_any none AR 0 0 m cR W)
  have HS := Lib.hid (fun W => stable_none (.iface 63 (.agg #[.slice none 0 0, .slice AR m cR])) W)
  go_enter Try.func34, Try.ntmps34
  go_wp2_with (first
    | (go_at_call 69; refine HL.out.mono ?_; rintro e w' ⟨rfl, hb1⟩)
    | (go_at_call 47; refine (HS.out _).mono ?_; rintro e w2 ⟨rfl, hb2⟩))
  go_end0
  exact ⟨rfl, below_step hb1 hb2⟩
/-- sort.Stable of a row of the call's own, nil or not. -/
theorem SortStable_own (R : List Int) (AR : Option Addr) (m cR : Nat) (w0 : World) (base : Nat) (A : Option Addr) (n c : Nat) (d : List (Int × Int)) (hown : w0.ownsRow base 27 2 (.slice A n c) n (cI d)) (hr : Rd w0 base 1 AR m (cZ R)) (hbw : base ≤ w0.heap.size) (hn : n ≤ 1152921504606846976) :
    Calls Try.prog 34 #[.iface 63 (.agg #[.slice A n c, .slice AR m cR])] w0 fun e w' => e = .returned (.tuple #[]) ∧ w'.ownsRow base 27 2 (.slice A n c) n (cI (stab (rJ R) d)) ∧ Below base w0 w' := by
  rcases hown.2 with ⟨hv, h0⟩ | ⟨g, cap, cur, hv, hbg, _⟩
  · injection hv with hA hn0 hc
    subst hA h0 hc
    have hd : d = [] := by have := hown.1; rw [cI_len] at this; exact List.eq_nil_of_length_eq_zero (by omega)
    subst hd
    refine (SortStable_none AR m cR w0).mono ?_
    rintro e w' ⟨rfl, hb⟩
    exact ⟨rfl, own_nil _ _ _ _, hb.mono hbw⟩
  · injection hv with hA _ hc
    subst hA hc
    refine (SortStable_any R AR m cR w0 w0 base g n c d ⟨hown, World.grownBy.refl w0 _⟩ hr hbw hn).mono ?_
    rintro e w' ⟨rfl, hs⟩
    exact ⟨rfl, hs.1, (Below.refl _ _).grown hs.2 hbw (fun k hk => by injection hk with hk; omega)⟩

set_option maxHeartbeats 4000000 in
theorem Stable_any (R : List Int) (AR : Option Addr) (m cR : Nat) (l : List (Int × Int)) (A : Option Addr) (n c : Nat) (w : World) (hr : Rd w w.heap.size 1 AR m (cZ R)) (hl : Rd w w.heap.size 2 A n (cI l)) (hn : n * 16 ≤ 140737488355328) :
    Calls Try.prog 13 #[.slice A n c, .agg #[.slice AR m cR]] w (OwnList 27 2 (cI (stab (rJ R) l)) n w) := by
  have hb0 : Below w.heap.size w (w.alloc (.cells #[.slice AR m cR] 25)) := (Below.refl _ _).alloc (Nat.le_refl _) _
  have HA : Hid (∀ v' w', All (w.alloc (.cells #[.slice AR m cR] 25)) w.heap.size 27 2 (.slice none 0 0) (0 + n) ([] ++ cI l) v' w' → ∃ B k, v' = .slice B n k ∧ w'.cell? ⟨w.heap.size, 0, none⟩ = some (.slice AR m cR) ∧ Below w.heap.size w w' ∧ Hid (Calls Try.prog 34 #[.iface 63 (.agg #[.slice B n k, .slice AR m cR])] w' fun e w2 => e = .returned (.tuple #[]) ∧ OwnList 27 2 (cI (stab (rJ R) l)) n w (.returned (.slice B n k)) w2)) := fun v' w' h => by
    obtain ⟨h1, h2, h3⟩ := h
    rw [Nat.zero_add, List.nil_append] at h1
    have hbw : Below w.heap.size w w' := hb0.grown h2 (by simp) (fun k hk => by cases hk)
    obtain ⟨B, k, rfl⟩ : ∃ B k, v' = .slice B n k := by
      rcases h1.2 with ⟨h, h0⟩ | ⟨g, cap, cur, hv, _⟩
      · exact ⟨none, 0, by rw [h, h0]⟩
      · exact ⟨_, _, hv⟩
    refine ⟨B, k, rfl, ?_, hbw, ?_⟩
    · have := h2.block w.heap.size (by simp) (by intro e; cases e)
      rw [World.cell?_of_block this]
      simp [go_sem]
    · refine (SortStable_own R AR m cR w' w.heap.size B n k l h1 (hr.below hbw) hbw.size (by omega)).mono ?_
      rintro e w2 ⟨rfl, ho, hb2⟩
      exact ⟨rfl, B, k, rfl, ho, hbw.trans hb2⟩
  have hlA : Rd (w.alloc (.cells #[.slice AR m cR] 25)) w.heap.size 2 A n (cI l) := hl.alloc (Nat.le_refl _) _
  clear hr hl
  go_enter Try.func13, Try.ntmps13
  go_wp2_with (first
    | (at_builtin; refine wpList_all eI rfl _ _ rfl w.heap.size _ (.slice none 0 0) 0 [] rfl (own_nil _ _ _ _) w.heap.size A n c (cI l) rfl hlA (cI_one l) (by omega) (by unfold maxLen; omega) (by simp) ?_; intro v' w' hall; obtain ⟨B, k, rfl, hcl, hbw, HC⟩ := HA.out v' w' hall; clear hall)
    | (go_at_call 34; refine HC.out.mono ?_; rintro e w2 ⟨rfl, ho⟩))
  go_ret
  exact ho
end Go.Proofs.Ytdojnocmapkodaa

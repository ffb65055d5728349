/- The contract of impl.StableSteps: the items sorted stably by each order of a script, one after the other, as a new list. -/
import Derived.Test.YtbfeokhkmlcgaaaImplStable
import Derived.Test.YtbfeokhkmlcgaaaLex
import Derived.Test.YtbfeokhkmlcgaaaSteps
namespace Go.Proofs.Ytbfeokhkmlcgaaa
open Go.RowKit
theorem steps_next (ts : List Tab) (l : List (Int × Int)) (i : Nat) (t : Tab) (h : ts[i]? = some t) : steps ((ts.map Tab.r).take (i + 1)) l = stab (rJ t.r) (steps ((ts.map Tab.r).take i) l) := by
  obtain ⟨hi, rfl⟩ := List.getElem?_eq_some_iff.1 h
  rw [take_snoc _ i (by simpa using hi), List.getElem_map]
  unfold steps
  rw [List.foldl_append]
  rfl

set_option maxHeartbeats 4000000 in
theorem StableSteps_any (l : List (Int × Int)) (A : Option Addr) (n c : Nat) (ts : List Tab) (AS : Option Addr) (nS cS : Nat) (w : World) (hl : Rd w w.heap.size 2 A n (cI l)) (hS : RdS w w.heap.size AS nS ts) (hn : n * 16 ≤ 140737488355328) (hnS : nS ≤ 9223372036854775806) :
    Calls Try.prog 24 #[.slice A n c, .slice AS nS cS] w (OwnList 28 2 (cI (steps (ts.map Tab.r) l)) n w) := by
  have HLS := Lib.hid hS.len
  have HA : Hid (∀ v' w', All w w.heap.size 28 2 (.slice none 0 0) (0 + n) ([] ++ cI l) v' w' → ∃ B k, v' = .slice B n k ∧ Below w.heap.size w w' ∧ w'.ownsRow w.heap.size 28 2 (.slice B n k) n (cI l)) := fun v' w' h => by
    obtain ⟨h1, h2, h3⟩ := h
    rw [Nat.zero_add, List.nil_append] at h1
    have hbw : Below w.heap.size w w' := (Below.refl _ _).grown h2 (Nat.le_refl _) (fun k hk => by cases hk)
    obtain ⟨B, k, rfl⟩ : ∃ B k, v' = .slice B n k := by
      rcases h1.2 with ⟨h, h0⟩ | ⟨g, cap, cur, hv, _⟩
      · exact ⟨none, 0, by rw [h, h0]⟩
      · exact ⟨_, _, hv⟩
    exact ⟨B, k, rfl, hbw, h1⟩
  go_enter Try.func24, Try.ntmps24
  go_wp2_with (first
    | (at_builtin; refine wpList_all eI rfl _ _ rfl w.heap.size _ (.slice none 0 0) 0 [] rfl (own_nil _ _ _ _) w.heap.size A n c (cI l) rfl hl (cI_one l) (by omega) (by unfold maxLen; omega) (Nat.le_refl _) ?_; intro v' w1 hall; obtain ⟨B, k, rfl, hbw, ho1⟩ := HA.out v' w1 hall; clear hall))
  go_loopw [12] (fun s wr => ∃ i : Nat, i ≤ nS ∧ s = .int .i64 i ∧ wr.ownsRow w.heap.size 28 2 (.slice B n k) n (cI (steps ((ts.map Tab.r).take i) l)) ∧ Below w.heap.size w wr) (fun s _ => nS - (intOf s).toNat)
  case atStart => exact ⟨0, Nat.zero_le _, rfl, ho1, hbw⟩
  case round =>
    clear ho1 hbw
    obtain ⟨i, hi, rfl, hown, hbel⟩ := hrel
    by_cases hlt : i < nS
    · obtain ⟨bs, os, t, rfl, ht, hct, _⟩ := (hS.on hbel).at_ hlt
      have hrt : Rd wr w.heap.size 1 t.a t.n (cZ t.r) := (hS.2 t (List.mem_of_getElem? ht)).below hbel
      have HN := Lib.hid (steps_next ts l i t ht)
      obtain ⟨ta, tn, tc, R⟩ := t
      clear ht
      dsimp only at hct hrt
      have hbx := hbel.alloc hbel.size (.cells #[.slice ta tn tc] 25)
      have HC := Lib.hid (SortStable_own R ta tn tc (wr.alloc (.cells #[.slice ta tn tc] 25)) w.heap.size B n k _ (hown.alloc _) (hrt.alloc hbel.size _) hbx.size (by omega))
      clear hown hrt
      go_wp2_with (first | (go_at_call 38; refine HC.out.mono ?_; rintro e w2 ⟨rfl, ho2, hb2⟩))
      rw [← HN.out] at ho2
      have b2 := hbx.trans hb2
      clear HC
      go_roundw
      case rel => exact ⟨i + 1, by omega, by go_num, ho2, b2⟩
      case measure => simp [intOf]; omega
    · obtain rfl : i = nS := by omega
      rw [List.take_of_length_le (by rw [List.length_map, HLS.out]; exact Nat.le_refl _)] at hown
      go_wp2
      go_ret
      exact ⟨B, k, rfl, hown, hbel⟩
end Go.Proofs.Ytbfeokhkmlcgaaa

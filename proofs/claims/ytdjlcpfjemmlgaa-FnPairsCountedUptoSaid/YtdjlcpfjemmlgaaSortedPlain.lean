/- Plain mathematics: a sorted list against a limit, as a table. Nothing of the program stands here. -/
import Derived.Test.YtdjlcpfjemmlgaaPlaces
import Derived.Test.YtdjlcpfjemmlgaaPlain
namespace Go.Proofs.Ytdjlcpfjemmlgaa
variable {α : Type}
theorem lim_step (r : α → Int) (m : List α) (h : Srt r m) (low : Int) : Step (mk (m.map fun y => decide (low ≤ r y))) m.length (cLt r low m) := by
  have hm : Mono (mk (m.map fun y => decide (low ≤ r y))) m.length := fun i j hij hj hp => by
    rw [mk_lt (by simp; omega)] at hp ⊢
    · rw [List.getElem_map, decide_eq_true_eq] at hp ⊢
      rcases Nat.lt_or_ge i j with hlt | hge
      · have := List.pairwise_iff_getElem.1 h i j (by omega) hj hlt
        omega
      · obtain rfl : i = j := by omega
        exact hp
  obtain ⟨s, hs⟩ := hm.step
  have : cLt r low m = s - 0 := countP_all m _ 0 s (Nat.zero_le _) hs.1 fun i y hy => by
    obtain ⟨hi, rfl⟩ := List.getElem?_eq_some_iff.1 hy
    have := hs.2 i hi
    rw [mk_lt (by simpa using hi), List.getElem_map, decide_eq_decide] at this
    simp only [decide_eq_true_eq]
    omega
  rw [this]
  exact hs
theorem between_count (r : α → Int) (m : List α) (low high : Int) (h : low ≤ high) : (m.countP fun y => decide (low ≤ r y) && decide (r y < high)) + cLt r low m = cLt r high m := by
  unfold cLt
  induction m with
  | nil => rfl
  | cons y m ih =>
    simp only [List.countP_cons]
    have : (if (decide (low ≤ r y) && decide (r y < high)) = true then 1 else 0) + (if decide (r y < low) = true then 1 else 0) = (if decide (r y < high) = true then 1 else 0 : Nat) := by
      simp only [decide_eq_true_eq, Bool.and_eq_true]
      split <;> split <;> split <;> omega
    omega
end Go.Proofs.Ytdjlcpfjemmlgaa

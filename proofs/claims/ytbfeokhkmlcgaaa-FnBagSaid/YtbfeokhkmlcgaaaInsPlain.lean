/- Plain mathematics: an element put in at the place of a search makes the stable list. -/
import Derived.Test.YtbfeokhkmlcgaaaSymPlain
import Derived.Test.YtbfeokhkmlcgaaaCountsPlain
namespace Go.Proofs.Ytbfeokhkmlcgaaa

theorem stab_snoc (R : List Int) (A : List (Int × Int)) (x : Int × Int) : stab (rJ R) (stab (rJ R) A ++ [x]) = stab (rJ R) (A ++ [x]) :=
  stab_of _ _ _ (stab_srt _ _) fun c => by rw [stab_filter, List.filter_append, List.filter_append, stab_filter]
theorem stab_cons (R : List Int) (A : List (Int × Int)) (x : Int × Int) : stab (rJ R) ([x] ++ stab (rJ R) A) = stab (rJ R) ([x] ++ A) :=
  stab_of _ _ _ (stab_srt _ _) fun c => by rw [stab_filter, List.filter_append, List.filter_append, stab_filter]
theorem mem_take_it {m : List (Int × Int)} {s : Nat} {y : Int × Int} (h : y ∈ m.take s) : ∃ j, j < s ∧ j < m.length ∧ it m j = y := by
  obtain ⟨j, hj, rfl⟩ := List.mem_iff_getElem.1 h
  have : j < s ∧ j < m.length := by rw [List.length_take] at hj; omega
  exact ⟨j, this.1, this.2, by rw [it_lt this.2, List.getElem_take]⟩
theorem mem_drop_it {m : List (Int × Int)} {s : Nat} {y : Int × Int} (h : y ∈ m.drop s) : ∃ j, s ≤ j ∧ j < m.length ∧ it m j = y := by
  obtain ⟨j, hj, rfl⟩ := List.mem_iff_getElem.1 h
  have : s + j < m.length := by rw [List.length_drop] at hj; omega
  exact ⟨s + j, by omega, this, by rw [it_lt this, List.getElem_drop]⟩
theorem past_ins (R : List Int) (A : List (Int × Int)) (x : Int × Int) (s : Nat) (h : Step (pPast R (stab (rJ R) A) x) (stab (rJ R) A).length s) :
    (stab (rJ R) A).take s ++ x :: (stab (rJ R) A).drop s = stab (rJ R) (A ++ [x]) := by
  rw [← stab_snoc]
  refine stab_one_right R x _ s (stab_srt _ _) (fun y hy => ?_) (fun y hy => ?_)
  · obtain ⟨j, h1, h2, rfl⟩ := mem_take_it hy
    have := h.2 j h2
    rw [decide_eq_false (by omega)] at this
    unfold pPast at this
    rw [decide_eq_false_iff_not] at this
    omega
  · obtain ⟨j, h1, h2, rfl⟩ := mem_drop_it hy
    have := h.2 j h2
    rw [decide_eq_true (by omega)] at this
    unfold pPast at this
    rw [decide_eq_true_eq] at this
    exact this
theorem first_ins (R : List Int) (A : List (Int × Int)) (x : Int × Int) (s : Nat) (h : Step (pFirst R (stab (rJ R) A) x) (stab (rJ R) A).length s) :
    (stab (rJ R) A).take s ++ x :: (stab (rJ R) A).drop s = stab (rJ R) ([x] ++ A) := by
  rw [← stab_cons]
  refine stab_one_left R x _ s (stab_srt _ _) (fun y hy => ?_) (fun y hy => ?_)
  · obtain ⟨j, h1, h2, rfl⟩ := mem_take_it hy
    have := h.2 j h2
    rw [decide_eq_false (by omega)] at this
    unfold pFirst at this
    simp at this
    exact this
  · obtain ⟨j, h1, h2, rfl⟩ := mem_drop_it hy
    have := h.2 j h2
    rw [decide_eq_true (by omega)] at this
    unfold pFirst at this
    simp at this
    exact this
end Go.Proofs.Ytbfeokhkmlcgaaa

/- Plain mathematics: the first places and the past places of a sorted list's own elements rise. Nothing of the program stands here. -/
import Derived.Test.YtdojnocmapkodaaCountsPlain
namespace Go.Proofs.Ytdojnocmapkodaa
theorem rises_at {R : List Int} {l : List (Int × Int)} (h : Srt (rI R) l) (i : Nat) (hi : i < l.length) :
    less R l (it l i).1 ≤ i ∧ i + 1 ≤ less R l (it l i).1 + eqs R l (it l i).1 ∧ less R l (it l i).1 + eqs R l (it l i).1 ≤ l.length := by
  have h1 := first_step h (it l i)
  have h2 := past_step h (it l i)
  have h3 := h1.2 i hi
  have h4 := h2.2 i hi
  have h5 := h2.1
  unfold pFirst at h3
  unfold pPast at h4
  simp at h3 h4
  refine ⟨?_, ?_, h5⟩ <;> omega
theorem rises_next {R : List Int} {l : List (Int × Int)} (h : Srt (rI R) l) (i : Nat) (hi : i + 1 < l.length) :
    less R l (it l i).1 ≤ less R l (it l (i + 1)).1 ∧ less R l (it l i).1 + eqs R l (it l i).1 ≤ less R l (it l (i + 1)).1 + eqs R l (it l (i + 1)).1 ∧
      (less R l (it l (i + 1)).1 = less R l (it l i).1 ∨ less R l (it l (i + 1)).1 = less R l (it l i).1 + eqs R l (it l i).1) := by
  have hs := srt_it h (i := i) (j := i + 1) (by omega) hi
  obtain ⟨a1, a2, a3⟩ := rises_at h i (by omega)
  obtain ⟨b1, b2, b3⟩ := rises_at h (i + 1) hi
  rcases Int.lt_or_eq_of_le hs with hlt | heq
  · have h1 := (first_step h (it l (i + 1))).2 i (by omega)
    have h2 := (past_step h (it l i)).2 (i + 1) hi
    unfold pFirst at h1
    unfold pPast at h2
    have h3 : ¬ less R l (it l (i + 1)).1 ≤ i := by
      intro hc
      rw [decide_eq_true hlt, decide_eq_true hc] at h1
      cases h1
    have h4 : less R l (it l i).1 + eqs R l (it l i).1 ≤ i + 1 := by
      rw [decide_eq_true hlt] at h2
      exact of_decide_eq_true h2.symm
    omega
  · have e1 : less R l (it l (i + 1)).1 = less R l (it l i).1 := by unfold less; rw [heq]
    have e2 : eqs R l (it l (i + 1)).1 = eqs R l (it l i).1 := by unfold eqs; rw [heq]
    omega
end Go.Proofs.Ytdojnocmapkodaa

/- Plain mathematics: where a sorted list is cut, and how many elements come before. Nothing of the program stands here. -/
import Derived.Test.YtdojnocmapkodaaLBase
import Derived.Test.YtdojnocmapkodaaSort
namespace Go.Proofs.Ytdojnocmapkodaa

/-- How many items have a smaller rank than a key, how many the same. -/
def less (R : List Int) (l : List (Int × Int)) (k : Int) : Nat := l.countP fun y => decide (rk R y.1 < rk R k)
def eqs (R : List Int) (l : List (Int × Int)) (k : Int) : Nat := l.countP fun y => decide (rk R y.1 = rk R k)
theorem less_le (R : List Int) (l : List (Int × Int)) (k : Int) : less R l k ≤ l.length := List.countP_le_length
theorem eqs_le (R : List Int) (l : List (Int × Int)) (k : Int) : eqs R l k ≤ l.length := List.countP_le_length
theorem less_eqs (R : List Int) (l : List (Int × Int)) (k : Int) : less R l k + eqs R l k = l.countP fun y => decide (rk R y.1 ≤ rk R k) := by
  unfold less eqs
  induction l with
  | nil => rfl
  | cons y l ih =>
    simp only [List.countP_cons]
    have : (if decide (rk R y.1 < rk R k) = true then 1 else 0) + (if decide (rk R y.1 = rk R k) = true then 1 else 0) = (if decide (rk R y.1 ≤ rk R k) = true then 1 else 0 : Nat) := by
      simp only [decide_eq_true_eq]
      split <;> split <;> split <;> omega
    omega
theorem less_eqs_le (R : List Int) (l : List (Int × Int)) (k : Int) : less R l k + eqs R l k ≤ l.length := by rw [less_eqs]; exact List.countP_le_length
/-- The rank of an item. -/
def rI (R : List Int) (x : Int × Int) : Int := rk R x.1
theorem srt_it {R : List Int} {l : List (Int × Int)} (h : Srt (rI R) l) {i j : Nat} (hij : i ≤ j) (hj : j < l.length) : rk R (it l i).1 ≤ rk R (it l j).1 := by
  rcases Nat.lt_or_ge i j with hlt | hge
  · have := List.pairwise_iff_getElem.1 h i j (by omega) hj hlt
    rw [it_lt (by omega), it_lt hj]
    exact this
  · obtain rfl : i = j := by omega
    exact Int.le_refl _
theorem first_mono {R : List Int} {l : List (Int × Int)} (h : Srt (rI R) l) (x : Int × Int) : Mono (pFirst R l x) l.length := fun i j hij hj hp => by
  have := srt_it h hij hj
  simp only [pFirst, Bool.not_eq_true', decide_eq_false_iff_not] at hp ⊢
  omega
theorem past_mono {R : List Int} {l : List (Int × Int)} (h : Srt (rI R) l) (x : Int × Int) : Mono (pPast R l x) l.length := fun i j hij hj hp => by
  have := srt_it h hij hj
  simp only [pPast, decide_eq_true_eq] at hp ⊢
  omega
theorem first_step {R : List Int} {l : List (Int × Int)} (h : Srt (rI R) l) (x : Int × Int) : Step (pFirst R l x) l.length (less R l x.1) := by
  obtain ⟨s, hs⟩ := (first_mono h x).step
  have : less R l x.1 = s - 0 := countP_all l _ 0 s (Nat.zero_le _) hs.1 fun i y hy => by
    have hi := (List.getElem?_eq_some_iff.1 hy).1
    have := hs.2 i hi
    simp only [pFirst, it, hy, Option.getD_some] at this
    by_cases hc : rk R y.1 < rk R x.1
    · simp only [hc, decide_true, Bool.not_true] at this
      have := (decide_eq_false_iff_not.1 this.symm)
      simp only [hc, decide_true, true_iff]; omega
    · simp only [hc, decide_false, Bool.not_false] at this
      have := of_decide_eq_true this.symm
      simp only [hc, decide_false]; constructor
      · intro h; cases h
      · omega
  rw [this]
  exact hs
theorem past_step {R : List Int} {l : List (Int × Int)} (h : Srt (rI R) l) (x : Int × Int) : Step (pPast R l x) l.length (less R l x.1 + eqs R l x.1) := by
  obtain ⟨s, hs⟩ := (past_mono h x).step
  have : less R l x.1 + eqs R l x.1 = s - 0 := by
    rw [less_eqs]
    exact countP_all l _ 0 s (Nat.zero_le _) hs.1 fun i y hy => by
      have hi := (List.getElem?_eq_some_iff.1 hy).1
      have := hs.2 i hi
      simp only [pPast, it, hy, Option.getD_some] at this
      rw [decide_eq_decide] at this
      rw [decide_eq_true_eq]
      omega
  rw [this]
  exact hs
theorem item_np (R : List Int) (l : List (Int × Int)) (x : Int × Int) (i : Nat) : decide (cItem R l x i ≤ 0) = pFirst R l x i := by
  unfold cItem cmpI pFirst
  by_cases h1 : rk R x.1 < rk R (it l i).1
  · rw [if_pos h1]
    simp
    omega
  · rw [if_neg h1]
    by_cases h2 : rk R (it l i).1 < rk R x.1
    · rw [if_pos h2]; simp [h2]
    · rw [if_neg h2]; simp [h2]
theorem item_zero (R : List Int) (l : List (Int × Int)) (x : Int × Int) (i : Nat) : cItem R l x i = 0 ↔ rk R (it l i).1 = rk R x.1 := by
  unfold cItem cmpI
  split
  · omega
  · split <;> omega
/-- At the place of the first one that is not less stands an equal one, if there is one. -/
theorem item_found {R : List Int} {l : List (Int × Int)} (h : Srt (rI R) l) (x : Int × Int) : (less R l x.1 < l.length ∧ cItem R l x (less R l x.1) = 0) ↔ 0 < eqs R l x.1 := by
  have h1 := first_step h x
  have h2 := past_step h x
  rw [item_zero]
  generalize less R l x.1 = a at h1 h2 ⊢
  generalize eqs R l x.1 = b at h2 ⊢
  constructor
  · rintro ⟨ha, he⟩
    rcases Nat.eq_zero_or_pos b with rfl | hb
    · have := h2.2 a ha
      simp only [pPast, Nat.add_zero] at this
      rw [decide_eq_decide] at this
      omega
    · exact hb
  · intro hb
    have ha : a < l.length := by have := h2.1; omega
    refine ⟨ha, ?_⟩
    have e1 := h1.2 a ha
    have e2 := h2.2 a ha
    simp only [pFirst, pPast] at e1 e2
    rw [decide_eq_true (Nat.le_refl a)] at e1
    rw [decide_eq_decide] at e2
    simp at e1
    omega
end Go.Proofs.Ytdojnocmapkodaa

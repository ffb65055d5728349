/- Plain mathematics: pairs whose sum reaches a limit, counted row by row or column by column. Nothing of the program stands here. -/
import Derived.Test.YtdjlcpfjemmlgaaSortedPlain
namespace Go.Proofs.Ytdjlcpfjemmlgaa
variable {α : Type}
/-- How many of b reach the limit together with x. -/
def reach (r : α → Int) (lim : Int) (x : α) (b : List α) : Nat := b.countP fun y => decide (lim ≤ r x + r y)
def cnt (r : α → Int) (lim : Int) (a b : List α) : Nat := (a.map fun x => reach r lim x b).sum
theorem cnt_nil (r : α → Int) (lim : Int) (b : List α) : cnt r lim [] b = 0 := rfl
theorem cnt_snoc (r : α → Int) (lim : Int) (a b : List α) (x : α) : cnt r lim (a ++ [x]) b = cnt r lim a b + reach r lim x b := by simp [cnt]
theorem reach_snoc (r : α → Int) (lim : Int) (x y : α) (b : List α) : reach r lim x (b ++ [y]) = reach r lim x b + if lim ≤ r x + r y then 1 else 0 := by
  unfold reach
  rw [List.countP_append, List.countP_singleton]
  simp only [decide_eq_true_eq]
theorem reach_le (r : α → Int) (lim : Int) (x : α) (b : List α) : reach r lim x b ≤ b.length := List.countP_le_length
theorem cnt_le (r : α → Int) (lim : Int) (a b : List α) : cnt r lim a b ≤ a.length * b.length := by
  induction a with
  | nil => simp [cnt]
  | cons x a ih =>
    have := reach_le r lim x b
    have e : cnt r lim (x :: a) b = reach r lim x b + cnt r lim a b := by simp [cnt]
    rw [e, List.length_cons, Nat.add_mul]
    omega
theorem cnt_cons_right (r : α → Int) (lim : Int) (a b : List α) (y : α) : cnt r lim b (y :: a) = cnt r lim b a + reach r lim y b := by
  induction b with
  | nil => rfl
  | cons z b ih =>
    have e1 : cnt r lim (z :: b) (y :: a) = reach r lim z (y :: a) + cnt r lim b (y :: a) := by simp [cnt]
    have e2 : cnt r lim (z :: b) a = reach r lim z a + cnt r lim b a := by simp [cnt]
    rw [e1, e2, ih]
    unfold reach
    rw [List.countP_cons, List.countP_cons]
    have : (if decide (lim ≤ r z + r y) = true then 1 else 0) = (if decide (lim ≤ r y + r z) = true then 1 else 0 : Nat) := by rw [Int.add_comm]
    omega
theorem cnt_comm (r : α → Int) (lim : Int) (a b : List α) : cnt r lim a b = cnt r lim b a := by
  induction a with
  | nil =>
    induction b with
    | nil => rfl
    | cons y b ih =>
      have e : cnt r lim (y :: b) [] = reach r lim y [] + cnt r lim b [] := by simp [cnt]
      rw [e, ← ih]
      rfl
  | cons x a ih =>
    have e : cnt r lim (x :: a) b = reach r lim x b + cnt r lim a b := by simp [cnt]
    rw [e, ih, cnt_cons_right]
    omega
/-- In a sorted list those that reach the limit stand behind the place of the limit. -/
theorem reach_step (r : α → Int) (lim : Int) (x : α) (b : List α) (h : Srt r b) : ∃ s, Step (mk (b.map fun y => decide (lim ≤ r x + r y))) b.length s ∧ b.length - s = reach r lim x b ∧ s ≤ b.length := by
  have h1 := lim_step r b h (lim - r x)
  have e : (b.map fun y => decide (lim ≤ r x + r y)) = b.map fun y => decide (lim - r x ≤ r y) := by
    apply List.map_congr_left
    intro y _
    rw [decide_eq_decide]
    omega
  refine ⟨_, by rw [e]; exact h1, ?_, h1.1⟩
  have h2 : cLt r (lim - r x) b + reach r lim x b = b.length := by
    unfold cLt reach
    induction b with
    | nil => rfl
    | cons y b ih =>
      have hh := (List.pairwise_cons.1 h).2
      have ih' := ih hh (lim_step r b hh (lim - r x)) (by
        apply List.map_congr_left
        intro y _
        rw [decide_eq_decide]
        omega)
      simp only [List.countP_cons, List.length_cons]
      have : (if decide (r y < lim - r x) = true then 1 else 0) + (if decide (lim ≤ r x + r y) = true then 1 else 0) = (1 : Nat) := by
        simp only [decide_eq_true_eq]
        split <;> split <;> omega
      omega
  omega
end Go.Proofs.Ytdjlcpfjemmlgaa

/- Plain mathematics: taking the earliest one of equal elements out of a list, and out of its stable list. Nothing of the program stands here. -/
import Derived.Test.YtbfeokhkmlcgaaaPlaces
namespace Go.Proofs.Ytbfeokhkmlcgaaa
variable {α : Type}
theorem bag_out (r : α → Int) (left : List α) (f : Nat) (hf : f < left.length) (hmin : ∀ j (h : j < f), r left[j] ≠ r left[f]) :
    (stab r left).take (cLt r (r left[f]) left) ++ (stab r left).drop (cLt r (r left[f]) left + 1) = stab r (left.take f ++ left.drop (f + 1)) := by
  obtain ⟨c, hc⟩ : ∃ c, c = r left[f] := ⟨_, rfl⟩
  rw [← hc] at hmin ⊢
  have hsp : left = left.take f ++ left[f] :: left.drop (f + 1) := by
    have := (List.take_append_drop f left).symm
    rw [List.drop_eq_getElem_cons hf] at this
    exact this
  have h0 : (left.take f).filter (fun z => r z == c) = [] := List.filter_eq_nil_iff.2 fun z hz => by
    obtain ⟨j, hj, rfl⟩ := List.mem_iff_getElem.1 hz
    have hj' : j < f := by rw [List.length_take] at hj; omega
    rw [List.getElem_take]
    simpa using hmin j hj'
  have hF : left.filter (fun z => r z == c) = left[f] :: (left.drop (f + 1)).filter (fun z => r z == c) := by
    conv => lhs; rw [hsp]
    rw [List.filter_append, h0, List.nil_append, List.filter_cons, if_pos (by rw [hc]; simp)]
  have hL : left.filter (fun z => decide (r z < c)) = (left.take f ++ left.drop (f + 1)).filter (fun z => decide (r z < c)) := by
    conv => lhs; rw [hsp]
    rw [List.filter_append, List.filter_append, List.filter_cons, if_neg (by rw [hc]; simp)]
  have hM : left.filter (fun z => decide (c < r z)) = (left.take f ++ left.drop (f + 1)).filter (fun z => decide (c < r z)) := by
    conv => lhs; rw [hsp]
    rw [List.filter_append, List.filter_append, List.filter_cons, if_neg (by rw [hc]; simp)]
  have hF' : (left.take f ++ left.drop (f + 1)).filter (fun z => r z == c) = (left.drop (f + 1)).filter (fun z => r z == c) := by rw [List.filter_append, h0, List.nil_append]
  have q1 := stab_quick r c left
  have q2 := stab_quick r c (left.take f ++ left.drop (f + 1))
  rw [← hL, ← hM, hF'] at q2
  rw [hF] at q1
  have hlen : (stab r (left.filter fun z => decide (r z < c))).length = cLt r c left := by
    rw [stab_len, ← List.countP_eq_length_filter]; rfl
  rw [q2, q1]
  generalize stab r (left.filter fun z => decide (r z < c)) = L at hlen
  rw [← hlen]
  rw [List.take_append_of_le_length (Nat.le_refl _), List.take_length]
  rw [List.drop_append, List.drop_of_length_le (by omega)]
  simp
end Go.Proofs.Ytbfeokhkmlcgaaa

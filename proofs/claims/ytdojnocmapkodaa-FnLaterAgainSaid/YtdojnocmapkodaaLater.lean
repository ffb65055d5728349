/- Plain mathematics: scripts of stable sorts that compare alike sort alike; a step that comes again later counts for nothing. Nothing of the program stands here. -/
import Derived.Test.YtdojnocmapkodaaLex
namespace Go.Proofs.Ytdojnocmapkodaa
theorem steps_at (Rs : List (List Int)) (l : List (Int × Int)) (j : Nat) (hj : j < l.length) : (steps Rs l)[pos Rs l j l.length]? = some (it l j) := by
  have e : steps Rs l = (idxs Rs l (List.range l.length)).map (it l) := by rw [idxs_map, range_it]
  obtain ⟨h, he⟩ := pos_ex Rs l l.length j hj
  rw [e, List.getElem?_map, List.getElem?_eq_getElem h, he]
  rfl
theorem steps_congr (Rs Ss : List (List Int)) (l : List (Int × Int)) (h : ∀ x y i k, lexlt Rs.reverse x y i k = lexlt Ss.reverse x y i k) : steps Rs l = steps Ss l := by
  refine steps_of Ss l _ (steps_len Rs l) fun j hj => ?_
  have e : pos Ss l j l.length = pos Rs l j l.length := by
    unfold pos
    congr 1
    funext a
    exact (h _ _ _ _).symm
  rw [e]
  exact steps_at Rs l j hj
theorem lexlt_drop (R : List Int) (C : List (List Int)) (x y : Int) (i k : Nat) (h : rk R x = rk R y) : ∀ B : List (List Int), lexlt (B ++ R :: C) x y i k = lexlt (B ++ C) x y i k
  | [] => by rw [List.nil_append, List.nil_append, lexlt, if_pos h]
  | S :: B => by
    rw [List.cons_append, List.cons_append, lexlt, lexlt, lexlt_drop R C x y i k h B]
theorem lexlt_dup (R : List Int) (B C : List (List Int)) (x y : Int) (i k : Nat) : ∀ A : List (List Int), lexlt (A ++ R :: (B ++ R :: C)) x y i k = lexlt (A ++ R :: (B ++ C)) x y i k
  | [] => by
    rw [List.nil_append, List.nil_append, lexlt, lexlt]
    by_cases h : rk R x = rk R y
    · rw [if_pos h, if_pos h, lexlt_drop R C x y i k h B]
    · rw [if_neg h, if_neg h]
  | S :: A => by
    rw [List.cons_append, List.cons_append, lexlt, lexlt, lexlt_dup R B C x y i k A]
/-- A step whose order comes again later changes nothing. -/
theorem steps_dup (Rs : List (List Int)) (a b : Nat) (hab : a < b) (hb : b < Rs.length) (he : Rs[a]? = Rs[b]?) (l : List (Int × Int)) : steps Rs l = steps (Rs.take a ++ Rs.drop (a + 1)) l := by
  have ha : a < Rs.length := by omega
  have hR : Rs[a] = Rs[b] := by
    rw [List.getElem?_eq_getElem ha, List.getElem?_eq_getElem hb] at he
    exact Option.some.inj he
  have s1 : Rs = Rs.take a ++ Rs[a] :: Rs.drop (a + 1) := by
    have := (List.take_append_drop a Rs).symm
    rw [List.drop_eq_getElem_cons ha] at this
    exact this
  obtain ⟨M, T, hMT⟩ : ∃ M T, Rs.drop (a + 1) = M ++ Rs[a] :: T := by
    refine ⟨(Rs.drop (a + 1)).take (b - (a + 1)), Rs.drop (b + 1), ?_⟩
    have h1 := (List.take_append_drop (b - (a + 1)) (Rs.drop (a + 1))).symm
    rw [List.drop_drop, show a + 1 + (b - (a + 1)) = b by omega, List.drop_eq_getElem_cons hb, ← hR] at h1
    exact h1
  refine steps_congr _ _ l fun x y i k => ?_
  rw [hMT]
  conv => lhs; rw [s1, hMT]
  have e1 : (Rs.take a ++ Rs[a] :: (M ++ Rs[a] :: T)).reverse = T.reverse ++ Rs[a] :: (M.reverse ++ Rs[a] :: (Rs.take a).reverse) := by simp
  have e2 : (Rs.take a ++ (M ++ Rs[a] :: T)).reverse = T.reverse ++ Rs[a] :: (M.reverse ++ (Rs.take a).reverse) := by simp
  rw [e1, e2]
  exact lexlt_dup _ _ _ _ _ _ _ _
end Go.Proofs.Ytdojnocmapkodaa

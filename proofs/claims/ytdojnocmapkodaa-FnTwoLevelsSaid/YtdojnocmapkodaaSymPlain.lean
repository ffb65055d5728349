/- Plain mathematics under sort.symMerge: an element moved through a list; two sorted lists cut and joined crosswise. -/
import Derived.Test.YtdojnocmapkodaaIns
namespace Go.Proofs.Ytdojnocmapkodaa

/-- x behind t elements of Y. -/
def ms (P Y : List (Int × Int)) (x : Int × Int) (T : List (Int × Int)) (t : Nat) : List (Int × Int) := P ++ (Y.take t ++ x :: (Y.drop t ++ T))
theorem ms_split (P Y : List (Int × Int)) (x : Int × Int) (T : List (Int × Int)) (t : Nat) (ht : t < Y.length) : ms P Y x T t = (P ++ Y.take t) ++ x :: Y[t] :: (Y.drop (t + 1) ++ T) := by
  unfold ms
  rw [List.drop_eq_getElem_cons ht]
  simp only [List.append_assoc, List.cons_append]
theorem ms_split' (P Y : List (Int × Int)) (x : Int × Int) (T : List (Int × Int)) (t : Nat) (ht : t < Y.length) : ms P Y x T (t + 1) = (P ++ Y.take t) ++ Y[t] :: x :: (Y.drop (t + 1) ++ T) := by
  unfold ms
  rw [take_snoc Y t ht]
  simp only [List.append_assoc, List.cons_append, List.nil_append]
theorem ms_right (P Y : List (Int × Int)) (x : Int × Int) (T : List (Int × Int)) (t i j : Nat) (ht : t < Y.length) (hi : i = P.length + t) (hj : j = P.length + t + 1) : swp (ms P Y x T t) i j = ms P Y x T (t + 1) := by
  have hl : (P ++ Y.take t).length = P.length + t := by simp; omega
  rw [ms_split P Y x T t ht, swp_adj' _ _ _ _ i j (by omega) (by omega), ms_split' P Y x T t ht]
theorem ms_left (P Y : List (Int × Int)) (x : Int × Int) (T : List (Int × Int)) (t i j : Nat) (ht : t < Y.length) (hi : i = P.length + t + 1) (hj : j = P.length + t) : swp (ms P Y x T (t + 1)) i j = ms P Y x T t := by
  have hl : (P ++ Y.take t).length = P.length + t := by simp; omega
  rw [ms_split' P Y x T t ht, swp_adj _ _ _ _ i j (by omega) (by omega), ms_split P Y x T t ht]

theorem it_right {A B : List (Int × Int)} {i : Nat} (h : A.length ≤ i) : it (A ++ B) i = it B (i - A.length) := by unfold it; rw [List.getElem?_append_right h]
theorem it_left {A B : List (Int × Int)} {i : Nat} (h : i < A.length) : it (A ++ B) i = it A i := by unfold it; rw [List.getElem?_append_left h]
theorem it_drop (l : List (Int × Int)) (k i : Nat) : it (l.drop k) i = it l (k + i) := by unfold it; rw [List.getElem?_drop]
theorem srt_at {R : List Int} {l : List (Int × Int)} (h : Srt (rJ R) l) {i j : Nat} (hij : i ≤ j) (hj : j < l.length) : rk R (it l i).1 ≤ rk R (it l j).1 := by
  rcases Nat.lt_or_ge i j with hlt | hge
  · have := List.pairwise_iff_getElem.1 h i j (by omega) hj hlt
    rw [it_lt (by omega), it_lt hj]
    exact this
  · obtain rfl : i = j := by omega
    exact Int.le_refl _
/-- In a sorted list what stands ahead of a place is at most its last one, what stands behind it at least its first one. -/
theorem take_all {R : List Int} {l : List (Int × Int)} (h : Srt (rJ R) l) {k : Nat} (hk : k ≤ l.length) {p : Int → Prop} (hp : ∀ u v, u ≤ v → p v → p u) (h0 : 0 < k → p (rk R (it l (k - 1)).1)) : ∀ y ∈ l.take k, p (rk R y.1) := fun y hy => by
  obtain ⟨i, hi, rfl⟩ := List.mem_iff_getElem.1 hy
  have hi' : i < k := by simp at hi; omega
  rw [List.getElem_take, ← it_lt (l := l)]
  exact hp _ _ (srt_at h (by omega) (by omega)) (h0 (by omega))
theorem drop_all {R : List Int} {l : List (Int × Int)} (h : Srt (rJ R) l) {k : Nat} {p : Int → Prop} (hp : ∀ u v, u ≤ v → p u → p v) (h0 : k < l.length → p (rk R (it l k).1)) : ∀ y ∈ l.drop k, p (rk R y.1) := fun y hy => by
  obtain ⟨i, hi, rfl⟩ := List.mem_iff_getElem.1 hy
  have hi' : k + i < l.length := by simp at hi; omega
  rw [List.getElem_drop, ← it_lt (l := l)]
  exact hp _ _ (srt_at h (by omega) (by omega)) (h0 (by omega))
theorem srt_take {R : List Int} {l : List (Int × Int)} (h : Srt (rJ R) l) (k : Nat) : Srt (rJ R) (l.take k) := List.Pairwise.sublist (List.take_sublist k l) h
theorem srt_drop {R : List Int} {l : List (Int × Int)} (h : Srt (rJ R) l) (k : Nat) : Srt (rJ R) (l.drop k) := List.Pairwise.sublist (List.drop_sublist k l) h
/-- Lists whose ranks lie apart may change places. -/
theorem filter_swap (R : List Int) (A B : List (Int × Int)) (h : ∀ a ∈ A, ∀ b ∈ B, rk R a.1 < rk R b.1) (c : Int) : (A ++ B).filter (fun z => rJ R z == c) = (B ++ A).filter (fun z => rJ R z == c) := by
  rw [List.filter_append, List.filter_append]
  by_cases hA : ∃ a ∈ A, rJ R a = c
  · obtain ⟨a, ha, hac⟩ := hA
    have : B.filter (fun z => rJ R z == c) = [] := by
      rw [List.filter_eq_nil_iff]
      intro b hb
      have := h a ha b hb
      unfold rJ at hac ⊢
      simp
      omega
    rw [this]
    simp
  · have : A.filter (fun z => rJ R z == c) = [] := by
      rw [List.filter_eq_nil_iff]
      intro a ha
      simp only [beq_iff_eq]
      exact fun hh => hA ⟨a, ha, hh⟩
    rw [this]
    simp
theorem stab_one_left (R : List Int) (x : Int × Int) (Y : List (Int × Int)) (k : Nat) (hY : Srt (rJ R) Y) (h1 : ∀ y ∈ Y.take k, rk R y.1 < rk R x.1) (h2 : ∀ y ∈ Y.drop k, rk R x.1 ≤ rk R y.1) : Y.take k ++ x :: Y.drop k = stab (rJ R) ([x] ++ Y) := by
  refine stab_of (rJ R) _ _ ?_ fun c => ?_
  · have hs : Srt (rJ R) (Y.take k ++ Y.drop k) := by rw [List.take_append_drop]; exact hY
    unfold Srt at hs ⊢
    rw [List.pairwise_append] at hs ⊢
    refine ⟨hs.1, List.pairwise_cons.2 ⟨fun y hy => h2 y hy, hs.2.1⟩, fun a ha b hb => ?_⟩
    rcases List.mem_cons.1 hb with rfl | hb
    · exact Int.le_of_lt (h1 a ha)
    · exact hs.2.2 a ha b hb
  · have e1 := filter_swap R (Y.take k) [x] (fun a ha b hb => by simp at hb; subst hb; exact h1 a ha) c
    conv => rhs; rw [← List.take_append_drop k Y]
    rw [show Y.take k ++ x :: Y.drop k = (Y.take k ++ [x]) ++ Y.drop k by simp, ← List.append_assoc, List.filter_append, e1, ← List.filter_append]
theorem stab_one_right (R : List Int) (y : Int × Int) (X : List (Int × Int)) (k : Nat) (hX : Srt (rJ R) X) (h1 : ∀ x ∈ X.take k, rk R x.1 ≤ rk R y.1) (h2 : ∀ x ∈ X.drop k, rk R y.1 < rk R x.1) : X.take k ++ y :: X.drop k = stab (rJ R) (X ++ [y]) := by
  refine stab_of (rJ R) _ _ ?_ fun c => ?_
  · have hs : Srt (rJ R) (X.take k ++ X.drop k) := by rw [List.take_append_drop]; exact hX
    unfold Srt at hs ⊢
    rw [List.pairwise_append] at hs ⊢
    refine ⟨hs.1, List.pairwise_cons.2 ⟨fun x hx => Int.le_of_lt (h2 x hx), hs.2.1⟩, fun a ha b hb => ?_⟩
    rcases List.mem_cons.1 hb with rfl | hb
    · exact h1 a ha
    · exact hs.2.2 a ha b hb
  · have e1 := filter_swap R [y] (X.drop k) (fun a ha b hb => by simp at ha; subst ha; exact h2 b hb) c
    conv => rhs; rw [← List.take_append_drop k X]
    rw [List.append_assoc, List.filter_append (p := fun z => rJ R z == c) (X.take k) (X.drop k ++ [y]), ← e1, ← List.filter_append]
    rfl
/-- Two sorted lists, cut so that what is ahead is not greater than what is behind, and joined crosswise. -/
theorem stab_cross (R : List Int) (X1 X2 Y1 Y2 : List (Int × Int)) (hX : Srt (rJ R) (X1 ++ X2)) (hY : Srt (rJ R) (Y1 ++ Y2)) (h1 : ∀ y ∈ Y1, ∀ x ∈ X2, rk R y.1 < rk R x.1) (h2 : ∀ x ∈ X1, ∀ y ∈ Y2, rk R x.1 ≤ rk R y.1) :
    stab (rJ R) (X1 ++ Y1) ++ stab (rJ R) (X2 ++ Y2) = stab (rJ R) ((X1 ++ X2) ++ (Y1 ++ Y2)) := by
  refine stab_of (rJ R) _ _ ?_ fun c => ?_
  · unfold Srt at hX hY ⊢
    rw [List.pairwise_append] at hX hY ⊢
    refine ⟨stab_srt _ _, stab_srt _ _, fun a ha b hb => ?_⟩
    rw [mem_stab, List.mem_append] at ha hb
    rcases ha with ha | ha <;> rcases hb with hb | hb
    · exact hX.2.2 a ha b hb
    · exact h2 a ha b hb
    · exact Int.le_of_lt (h1 a ha b hb)
    · exact hY.2.2 a ha b hb
  · rw [List.filter_append, stab_filter, stab_filter, ← List.filter_append]
    have e := filter_swap R Y1 X2 h1 c
    rw [show (X1 ++ Y1) ++ (X2 ++ Y2) = X1 ++ ((Y1 ++ X2) ++ Y2) by simp, show (X1 ++ X2) ++ (Y1 ++ Y2) = X1 ++ ((X2 ++ Y1) ++ Y2) by simp]
    rw [List.filter_append, List.filter_append, e, ← List.filter_append, ← List.filter_append]
end Go.Proofs.Ytdojnocmapkodaa

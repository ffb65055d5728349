/- Plain mathematics: sorting by several orders, one after the other, and counting who comes before whom. Nothing of the program stands here. -/
import Derived.Test.YtdojnocmapkodaaBefore
import Derived.Test.YtdojnocmapkodaaSort
namespace Go.Proofs.Ytdojnocmapkodaa

/-- The list that is sorted stably by each order, one after the other. -/
def steps (Rs : List (List Int)) (l : List (Int × Int)) : List (Int × Int) := Rs.foldl (fun m R => stab (fun x => rk R x.1) m) l
theorem steps_len (Rs : List (List Int)) (l : List (Int × Int)) : (steps Rs l).length = l.length := by
  unfold steps
  induction Rs generalizing l with
  | nil => rfl
  | cons R Rs ih => rw [List.foldl_cons, ih, stab_len]
/-- The places, sorted likewise. -/
def idxs (Rs : List (List Int)) (l : List (Int × Int)) (m : List Nat) : List Nat := Rs.foldl (fun m R => stab (fun i => rk R (it l i).1) m) m
theorem idxs_map (Rs : List (List Int)) (l : List (Int × Int)) (m : List Nat) : (idxs Rs l m).map (it l) = steps Rs (m.map (it l)) := by
  unfold idxs steps
  induction Rs generalizing m with
  | nil => rfl
  | cons R Rs ih => rw [List.foldl_cons, ih, List.foldl_cons, stab_map (fun x => rk R x.1) (it l) m]
theorem range_it (l : List (Int × Int)) : (List.range l.length).map (it l) = l := by
  apply List.ext_getElem
  · simp
  · intro i h1 h2; simp [it_lt h2]
theorem idxs_perm (Rs : List (List Int)) (l : List (Int × Int)) (m : List Nat) : (idxs Rs l m).Perm m := by
  unfold idxs
  induction Rs generalizing m with
  | nil => exact List.Perm.refl _
  | cons R Rs ih => rw [List.foldl_cons]; exact (ih _).trans (stab_perm _ _)
theorem idxs_lex (l : List (Int × Int)) : ∀ (Rs acc : List (List Int)) (m : List Nat), m.Pairwise (fun a b => lexlt acc (it l a).1 (it l b).1 a b = true) →
    (idxs Rs l m).Pairwise fun a b => lexlt (Rs.reverse ++ acc) (it l a).1 (it l b).1 a b = true
  | [], acc, m, h => by simpa [idxs] using h
  | R :: Rs, acc, m, h => by
    have h1 := stab_lex (fun i => rk R (it l i).1) _ m h
    have h2 := idxs_lex l Rs (R :: acc) (stab (fun i => rk R (it l i).1) m) (h1.imp fun {a b} hab => by
      rw [lexlt]
      rcases hab with hab | ⟨hab, hq⟩
      · rw [if_neg (by omega), decide_eq_true hab]
      · rw [if_pos hab]; exact hq)
    simpa [idxs] using h2
theorem lexlt_asym : ∀ (rs : List (List Int)) (x y : Int) (i k : Nat), lexlt rs x y i k = true → lexlt rs y x k i = false
  | [], x, y, i, k, h => by simp [lexlt] at h ⊢; omega
  | R :: rs, x, y, i, k, h => by
    rw [lexlt] at h ⊢
    split at h
    · rename_i he
      rw [if_pos he.symm]
      exact lexlt_asym rs x y i k h
    · rename_i he
      rw [if_neg (fun e => he e.symm)]
      simp at h ⊢
      omega
theorem lexlt_irr (rs : List (List Int)) (x : Int) (i : Nat) : lexlt rs x x i i = false := by
  cases h : lexlt rs x x i i with
  | false => rfl
  | true => have := lexlt_asym rs x x i i h; rw [h] at this; cases this

/-- How many come before the item at j. -/
def pos (Rs : List (List Int)) (l : List (Int × Int)) (j k : Nat) : Nat := (List.range k).countP fun a => lexlt Rs.reverse (it l a).1 (it l j).1 a j
theorem pos_succ (Rs : List (List Int)) (l : List (Int × Int)) (j k : Nat) : pos Rs l j (k + 1) = pos Rs l j k + if lexlt Rs.reverse (it l k).1 (it l j).1 k j = true then 1 else 0 := by
  unfold pos
  rw [List.range_succ, List.countP_append, List.countP_singleton]
theorem pos_le (Rs : List (List Int)) (l : List (Int × Int)) (j k : Nat) : pos Rs l j k ≤ k := by
  have := List.countP_le_length (p := fun a => lexlt Rs.reverse (it l a).1 (it l j).1 a j) (l := List.range k)
  simpa [pos] using this
theorem pos_of (Rs : List (List Int)) (l : List (Int × Int)) (n j : Nat) (h : j < (idxs Rs l (List.range n)).length) : pos Rs l ((idxs Rs l (List.range n))[j]) n = j := by
  have hp := idxs_perm Rs l (List.range n)
  have hw := idxs_lex l Rs [] (List.range n) (List.pairwise_lt_range.imp fun {a b} hab => by simpa [lexlt] using hab)
  rw [List.append_nil] at hw
  unfold pos
  rw [← hp.countP_eq]
  generalize idxs Rs l (List.range n) = S at h hw ⊢
  have := countP_all S (fun a => lexlt Rs.reverse (it l a).1 (it l S[j]).1 a S[j]) 0 j (Nat.zero_le _) (by omega) fun i x hx => by
    obtain ⟨hi, rfl⟩ := List.getElem?_eq_some_iff.1 hx
    rw [List.pairwise_iff_getElem] at hw
    rcases Nat.lt_trichotomy i j with hlt | rfl | hgt
    · exact ⟨fun _ => ⟨Nat.zero_le _, hlt⟩, fun _ => hw i j hi h hlt⟩
    · refine ⟨fun hh => ?_, fun hh => absurd hh.2 (by omega)⟩
      rw [lexlt_irr] at hh; cases hh
    · refine ⟨fun hh => ?_, fun hh => absurd hh.2 (by omega)⟩
      have := lexlt_asym _ _ _ _ _ (hw j i h hi hgt)
      rw [this] at hh; cases hh
  omega
theorem idxs_len (Rs : List (List Int)) (l : List (Int × Int)) (n : Nat) : (idxs Rs l (List.range n)).length = n := by rw [(idxs_perm Rs l (List.range n)).length_eq]; simp
/-- Every place is that of some index. -/
theorem pos_ex (Rs : List (List Int)) (l : List (Int × Int)) (n a : Nat) (ha : a < n) : ∃ h : pos Rs l a n < (idxs Rs l (List.range n)).length, (idxs Rs l (List.range n))[pos Rs l a n] = a := by
  have hm : a ∈ idxs Rs l (List.range n) := (idxs_perm Rs l (List.range n)).mem_iff.2 (by simpa using ha)
  obtain ⟨j, hj, rfl⟩ := List.mem_iff_getElem.1 hm
  have := pos_of Rs l n j hj
  exact ⟨by rw [this]; exact hj, by simp [this]⟩
theorem pos_lt (Rs : List (List Int)) (l : List (Int × Int)) (n a : Nat) (ha : a < n) : pos Rs l a n < n := by
  obtain ⟨h, _⟩ := pos_ex Rs l n a ha
  rwa [idxs_len] at h
theorem pos_inj (Rs : List (List Int)) (l : List (Int × Int)) (n a b : Nat) (ha : a < n) (hb : b < n) (h : pos Rs l a n = pos Rs l b n) : a = b := by
  obtain ⟨h1, e1⟩ := pos_ex Rs l n a ha
  obtain ⟨h2, e2⟩ := pos_ex Rs l n b hb
  rw [← e1, ← e2]
  congr 1
/-- A list that has each item at its place is the sorted one. -/
theorem steps_of (Rs : List (List Int)) (l o : List (Int × Int)) (hl : o.length = l.length) (h : ∀ j, j < l.length → o[pos Rs l j l.length]? = some (it l j)) : o = steps Rs l := by
  have e : steps Rs l = (idxs Rs l (List.range l.length)).map (it l) := by rw [idxs_map, range_it]
  rw [e]
  apply List.ext_getElem
  · rw [List.length_map, idxs_len, hl]
  · intro j h1 h2
    have hj : j < (idxs Rs l (List.range l.length)).length := by simpa using h2
    have hlt : (idxs Rs l (List.range l.length))[j] < l.length := by
      have := (idxs_perm Rs l (List.range l.length)).mem_iff.1 (List.getElem_mem hj)
      simpa using this
    have := h _ hlt
    rw [pos_of Rs l l.length j hj] at this
    rw [List.getElem_map]
    have h3 := List.getElem?_eq_getElem h1
    rw [this] at h3
    exact (Option.some.inj h3).symm
theorem steps_one (R : List Int) (l : List (Int × Int)) : steps [R] l = stab (fun x => rk R x.1) l := rfl
end Go.Proofs.Ytdojnocmapkodaa

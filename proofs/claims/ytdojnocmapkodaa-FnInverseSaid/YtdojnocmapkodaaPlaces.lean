/- Plain mathematics: where an element stands in the stable list; parts of the stable list. Nothing of the program stands here. -/
import Derived.Test.YtdojnocmapkodaaSort
namespace Go.Proofs.Ytdojnocmapkodaa
variable {α : Type}

/-- How many elements have a smaller rank than c, how many have just c. -/
def cLt (r : α → Int) (c : Int) (l : List α) : Nat := l.countP fun y => decide (r y < c)
def cEq (r : α → Int) (c : Int) (l : List α) : Nat := l.countP fun y => decide (r y = c)
theorem cLt_app (r : α → Int) (c : Int) (l m : List α) : cLt r c (l ++ m) = cLt r c l + cLt r c m := by simp [cLt]
theorem cEq_app (r : α → Int) (c : Int) (l m : List α) : cEq r c (l ++ m) = cEq r c l + cEq r c m := by simp [cEq]
theorem cLt_stab (r : α → Int) (c : Int) (l : List α) : cLt r c (stab r l) = cLt r c l := (stab_perm r l).countP_eq _
theorem cEq_stab (r : α → Int) (c : Int) (l : List α) : cEq r c (stab r l) = cEq r c l := (stab_perm r l).countP_eq _
theorem cLt_cEq (r : α → Int) (c : Int) (l : List α) : cLt r c l + cEq r c l = l.countP fun y => decide (r y ≤ c) := by
  unfold cLt cEq
  induction l with
  | nil => rfl
  | cons y l ih =>
    simp only [List.countP_cons]
    have : (if decide (r y < c) = true then 1 else 0) + (if decide (r y = c) = true then 1 else 0) = (if decide (r y ≤ c) = true then 1 else 0 : Nat) := by
      simp only [decide_eq_true_eq]
      split <;> split <;> split <;> omega
    omega
theorem cLt_cEq_le (r : α → Int) (c : Int) (l : List α) : cLt r c l + cEq r c l ≤ l.length := by rw [cLt_cEq]; exact List.countP_le_length

/-- A sorted list: what is less, what is equal, what is more. -/
theorem srt_split3 (r : α → Int) (c : Int) : ∀ m : List α, Srt r m → m = m.filter (fun z => decide (r z < c)) ++ (m.filter (fun z => r z == c) ++ m.filter (fun z => decide (c < r z)))
  | [], _ => rfl
  | x :: xs, h => by
    have h' := List.pairwise_cons.1 h
    have ih := srt_split3 r c xs h'.2
    rcases Int.lt_trichotomy (r x) c with hlt | heq | hgt
    · have e1 : (r x == c) = false := by rw [beq_eq_false_iff_ne]; omega
      have e2 : decide (c < r x) = false := by rw [decide_eq_false_iff_not]; omega
      simp only [List.filter_cons, hlt, decide_true, if_true, e1, e2, Bool.false_eq_true, if_false, List.cons_append]
      rw [← ih]
    · have hf : xs.filter (fun z => decide (r z < c)) = [] := List.filter_eq_nil_iff.2 fun z hz => by
        have := h'.1 z hz
        simp; omega
      rw [hf, List.nil_append] at ih
      have e1 : decide (r x < c) = false := by rw [decide_eq_false_iff_not]; omega
      have e2 : decide (c < r x) = false := by rw [decide_eq_false_iff_not]; omega
      have e3 : (r x == c) = true := by rw [beq_iff_eq]; exact heq
      simp only [List.filter_cons, e1, e2, e3, Bool.false_eq_true, if_false, if_true, hf, List.nil_append, List.cons_append]
      rw [← ih]
    · have hf : xs.filter (fun z => decide (r z < c)) = [] := List.filter_eq_nil_iff.2 fun z hz => by
        have := h'.1 z hz
        simp; omega
      have hf2 : xs.filter (fun z => r z == c) = [] := List.filter_eq_nil_iff.2 fun z hz => by
        have := h'.1 z hz
        simp; omega
      rw [hf, hf2, List.nil_append, List.nil_append] at ih
      have e1 : decide (r x < c) = false := by rw [decide_eq_false_iff_not]; omega
      have e2 : decide (c < r x) = true := by rw [decide_eq_true_eq]; omega
      have e3 : (r x == c) = false := by rw [beq_eq_false_iff_ne]; omega
      simp only [List.filter_cons, e1, e2, e3, Bool.false_eq_true, if_false, if_true, hf, hf2, List.nil_append]
      rw [← ih]
/-- The part of the stable list with certain ranks is the stable list of that part. -/
theorem stab_part (r : α → Int) (q : Int → Bool) (l : List α) : (stab r l).filter (fun z => q (r z)) = stab r (l.filter fun z => q (r z)) := by
  refine stab_of r _ _ ?_ fun c => ?_
  · exact List.Pairwise.filter _ (stab_srt r l)
  · rw [List.filter_filter, List.filter_filter]
    have e : ∀ m : List α, m.filter (fun z => (r z == c) && q (r z)) = (m.filter fun z => r z == c).filter fun z => q (r z) := fun m => by
      rw [List.filter_filter]
      congr 1
      funext z
      exact Bool.and_comm _ _
    rw [e, e, stab_filter]
/-- Around a rank: the stable list of what is less, what is equal as it stands, the stable list of what is more. -/
theorem stab_quick (r : α → Int) (c : Int) (l : List α) : stab r l = stab r (l.filter fun z => decide (r z < c)) ++ (l.filter (fun z => r z == c) ++ stab r (l.filter fun z => decide (c < r z))) := by
  have h := srt_split3 r c (stab r l) (stab_srt r l)
  rw [stab_part r (fun k => decide (k < c)), stab_filter, stab_part r (fun k => decide (c < k))] at h
  exact h
/-- An element stands in the stable list behind what is less, and behind what is equal and came earlier. -/
theorem stab_place (r : α → Int) (l : List α) (i : Nat) (hi : i < l.length) : (stab r l)[cLt r (r l[i]) l + cEq r (r l[i]) (l.take i)]? = some l[i] := by
  have h := srt_split3 r (r l[i]) (stab r l) (stab_srt r l)
  have hl : ((stab r l).filter (fun z => decide (r z < r l[i]))).length = cLt r (r l[i]) l := by
    rw [← List.countP_eq_length_filter]
    exact (stab_perm r l).countP_eq _
  rw [h, List.getElem?_append_right (by rw [hl]; omega), hl, Nat.add_sub_cancel_left, stab_filter]
  have hf : l.filter (fun z => r z == r l[i]) = (l.take i).filter (fun z => r z == r l[i]) ++ l[i] :: (l.drop (i + 1)).filter (fun z => r z == r l[i]) := by
    have e : ∀ c, l.filter (fun z => r z == c) = (l.take i).filter (fun z => r z == c) ++ (l[i] :: l.drop (i + 1)).filter (fun z => r z == c) := fun c => by
      rw [← List.filter_append, ← List.drop_eq_getElem_cons hi, List.take_append_drop]
    rw [e, List.filter_cons]
    simp
  have hc : ((l.take i).filter (fun z => r z == r l[i])).length = cEq r (r l[i]) (l.take i) := by
    rw [← List.countP_eq_length_filter]
    unfold cEq
    congr 1
  rw [List.getElem?_append_left (by rw [hf, List.length_append, hc, List.length_cons]; omega), hf, List.getElem?_append_right (by rw [hc]; omega), hc, Nat.sub_self]
  rfl
/-- In a sorted list that place is the element's own. -/
theorem srt_place (r : α → Int) (l : List α) (h : Srt r l) (i : Nat) (hi : i < l.length) : cLt r (r l[i]) l + cEq r (r l[i]) (l.take i) = i := by
  have h0 : cLt r (r l[i]) (l.drop i) = 0 := by
    unfold cLt
    rw [List.countP_eq_zero]
    intro y hy
    obtain ⟨j, hj, rfl⟩ := List.mem_iff_getElem.1 hy
    rw [List.getElem_drop]
    rcases Nat.eq_zero_or_pos j with rfl | hp
    · simp
    · have := List.pairwise_iff_getElem.1 h i (i + j) hi (by rw [List.length_drop] at hj; omega) (by omega)
      simp; omega
  have h1 : cLt r (r l[i]) l = cLt r (r l[i]) (l.take i) := by
    have e : ∀ c, cLt r c l = cLt r c (l.take i) + cLt r c (l.drop i) := fun c => by rw [← cLt_app, List.take_append_drop]
    rw [e, h0, Nat.add_zero]
  rw [h1, cLt_cEq]
  have : (l.take i).countP (fun y => decide (r y ≤ r l[i])) = (l.take i).length := by
    rw [List.countP_eq_length]
    intro y hy
    obtain ⟨j, hj, rfl⟩ := List.mem_iff_getElem.1 hy
    have hj' : j < i := by rw [List.length_take] at hj; omega
    rw [List.getElem_take]
    have := List.pairwise_iff_getElem.1 h j i (by omega) hi hj'
    simpa using this
  rw [this, List.length_take]
  omega
/-- Sorting parts first changes nothing. -/
theorem stab_app_left (r : α → Int) (l m : List α) : stab r (stab r l ++ m) = stab r (l ++ m) :=
  stab_of r _ _ (stab_srt _ _) fun c => by rw [stab_filter, List.filter_append, List.filter_append, stab_filter]
theorem stab_app_both (r : α → Int) (l m : List α) : stab r (stab r l ++ stab r m) = stab r (l ++ m) :=
  stab_of r _ _ (stab_srt _ _) fun c => by rw [stab_filter, List.filter_append, List.filter_append, stab_filter, stab_filter]
/-- Two sorted lists together: where each one's elements stand. -/
theorem merged_left (r : α → Int) (a b : List α) (ha : Srt r a) (i : Nat) (hi : i < a.length) : (stab r (a ++ b))[i + cLt r (r a[i]) b]? = some a[i] := by
  have h := stab_place r (a ++ b) i (by rw [List.length_append]; omega)
  rw [List.getElem_append_left hi, cLt_app, List.take_append_of_le_length (by omega)] at h
  have h2 := srt_place r a ha i hi
  rw [show cLt r (r a[i]) a + cLt r (r a[i]) b + cEq r (r a[i]) (a.take i) = i + cLt r (r a[i]) b by omega] at h
  exact h
theorem merged_right (r : α → Int) (a b : List α) (hb : Srt r b) (i : Nat) (hi : i < b.length) : (stab r (a ++ b))[i + (cLt r (r b[i]) a + cEq r (r b[i]) a)]? = some b[i] := by
  have h := stab_place r (a ++ b) (a.length + i) (by rw [List.length_append]; omega)
  rw [List.getElem_append_right (by omega)] at h
  simp only [Nat.add_sub_cancel_left] at h
  rw [cLt_app, List.take_length_add_append, cEq_app] at h
  have h2 := srt_place r b hb i hi
  rw [show cLt r (r b[i]) a + cLt r (r b[i]) b + (cEq r (r b[i]) a + cEq r (r b[i]) (b.take i)) = i + (cLt r (r b[i]) a + cEq r (r b[i]) a) by omega] at h
  exact h
/-- Ranks from 0 to size - 1: the stable list is what has the rank 0 as it stands, then what has the rank 1, and so on. -/
def byRank (r : α → Int) (l : List α) (k : Nat) : List α := (List.range k).flatMap fun (c : Nat) => l.filter fun z => r z == (c : Int)
theorem byRank_succ (r : α → Int) (l : List α) (k : Nat) : byRank r l (k + 1) = byRank r l k ++ l.filter (fun z => r z == (k : Int)) := by
  unfold byRank
  rw [List.range_succ, List.flatMap_append]
  simp
theorem byRank_stab (r : α → Int) (l : List α) (h0 : ∀ z ∈ l, 0 ≤ r z) : ∀ k : Nat, stab r (l.filter fun z => decide (r z < (k : Int))) = byRank r l k
  | 0 => by
    have : l.filter (fun z => decide (r z < ((0 : Nat) : Int))) = [] := List.filter_eq_nil_iff.2 fun z hz => by have := h0 z hz; simp; omega
    rw [this]; rfl
  | k + 1 => by
    have h := stab_quick r (k : Int) (l.filter fun z => decide (r z < ((k + 1 : Nat) : Int)))
    rw [List.filter_filter, List.filter_filter, List.filter_filter] at h
    have e1 : (fun z => decide (r z < (k : Int)) && decide (r z < ((k + 1 : Nat) : Int))) = fun z => decide (r z < (k : Int)) := by
      funext z; rw [Bool.eq_iff_iff]; simp; omega
    have e2 : (fun z => (r z == (k : Int)) && decide (r z < ((k + 1 : Nat) : Int))) = fun z => r z == (k : Int) := by
      funext z; rw [Bool.eq_iff_iff]; simp; omega
    have e3 : l.filter (fun z => decide ((k : Int) < r z) && decide (r z < ((k + 1 : Nat) : Int))) = [] := List.filter_eq_nil_iff.2 fun z _ => by simp; omega
    rw [e1, e2, e3, byRank_stab r l h0 k] at h
    rw [h, byRank_succ]
    simp [stab]
theorem stab_counted (r : α → Int) (l : List α) (n : Nat) (h0 : ∀ z ∈ l, 0 ≤ r z) (h1 : ∀ z ∈ l, r z < n) : stab r l = byRank r l n := by
  rw [← byRank_stab r l h0 n]
  congr 1
  exact (List.filter_eq_self.2 fun z hz => by simpa using h1 z hz).symm
/-- Sorting by two ranks, one after the other, is sorting by one rank that looks at the later one first. -/
theorem stab_two (r s t : α → Int) (l : List α) (h : ∀ a b : α, t a ≤ t b ↔ (s a < s b ∨ s a = s b ∧ r a ≤ r b)) : stab s (stab r l) = stab t l := by
  refine stab_of t _ _ ?_ fun c => ?_
  · refine (stab_lex s (fun a b => r a ≤ r b) (stab r l) (stab_srt r l)).imp fun {a b} hab => ?_
    exact (h a b).2 hab
  · have heq : ∀ a b : α, t a = t b → s a = s b ∧ r a = r b := fun a b e => by
      have h1 := (h a b).1 (by omega)
      have h2 := (h b a).1 (by omega)
      omega
    have hm : ∀ m : List α, (∀ z, z ∈ m ↔ z ∈ l) → ∀ a ∈ l, t a = c → m.filter (fun z => t z == c) = ((m.filter fun z => s z == s a).filter fun z => r z == r a).filter fun z => t z == c := fun m _ a _ e => by
      rw [List.filter_filter, List.filter_filter]
      apply List.filter_congr
      intro z _
      by_cases hz : t z = c
      · have hh := heq z a (by omega)
        have e1 : (t z == c) = true := by rw [beq_iff_eq]; exact hz
        have e2 : (r z == r a) = true := by rw [beq_iff_eq]; exact hh.2
        have e3 : (s z == s a) = true := by rw [beq_iff_eq]; exact hh.1
        rw [e1, e2, e3]; rfl
      · have e1 : (t z == c) = false := by rw [beq_eq_false_iff_ne]; exact hz
        rw [e1]; rfl
    by_cases hex : ∃ a ∈ l, t a = c
    · obtain ⟨a, ha, e⟩ := hex
      rw [hm _ (fun z => by rw [mem_stab, mem_stab]) a ha e, hm l (fun z => Iff.rfl) a ha e, stab_filter]
      rw [List.filter_filter (p := fun z => r z == r a), List.filter_filter (p := fun z => r z == r a)]
      have e2 : ∀ m : List α, m.filter (fun z => (r z == r a) && (s z == s a)) = (m.filter fun z => r z == r a).filter fun z => s z == s a := fun m => by
        rw [List.filter_filter]
        congr 1
        funext z
        exact Bool.and_comm _ _
      rw [e2, e2, stab_filter]
    · have h1 : ∀ m : List α, (∀ z, z ∈ m ↔ z ∈ l) → m.filter (fun z => t z == c) = [] := fun m hml => List.filter_eq_nil_iff.2 fun z hz => by
        have := (hml z).1 hz
        simp
        exact fun e => hex ⟨z, this, e⟩
      rw [h1 _ (fun z => by rw [mem_stab, mem_stab]), h1 l (fun z => Iff.rfl)]
/-- Sorting by ranks that part what other ranks have equal, and nothing more, after those: the last alone counts. -/
theorem stab_after (r s : α → Int) (l : List α) (h : ∀ a ∈ l, ∀ b ∈ l, s a = s b → r a = r b) : stab s (stab r l) = stab s l := by
  refine stab_of s _ _ (stab_srt _ _) fun c => ?_
  rw [stab_filter]
  by_cases hex : ∃ a ∈ l, s a = c
  · obtain ⟨a, ha, e⟩ := hex
    have hm : ∀ m : List α, (∀ z, z ∈ m ↔ z ∈ l) → m.filter (fun z => s z == c) = (m.filter fun z => r z == r a).filter fun z => s z == c := fun m hml => by
      rw [List.filter_filter]
      apply List.filter_congr
      intro z hz
      by_cases hz' : s z = c
      · have := h z ((hml z).1 hz) a ha (by omega)
        simp [hz', this]
      · simp [hz']
    rw [hm _ (fun z => mem_stab r l z), hm l (fun z => Iff.rfl), stab_filter]
  · have h1 : ∀ m : List α, (∀ z, z ∈ m ↔ z ∈ l) → m.filter (fun z => s z == c) = [] := fun m hml => List.filter_eq_nil_iff.2 fun z hz => by
      have := (hml z).1 hz
      simp
      exact fun e => hex ⟨z, this, e⟩
    rw [h1 _ (fun z => mem_stab r l z), h1 l (fun z => Iff.rfl)]
end Go.Proofs.Ytdojnocmapkodaa

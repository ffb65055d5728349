/- Plain mathematics: the stable list. Nothing of the program stands here. -/
namespace Go.Proofs.Ytdojnocmapkodaa
variable {α β : Type}

/-- x put in ahead of the first element whose rank is not less. -/
def ins (r : α → Int) (x : α) : List α → List α
  | [] => [x]
  | y :: ys => if r x ≤ r y then x :: y :: ys else y :: ins r x ys
/-- The stable list. -/
def stab (r : α → Int) : List α → List α
  | [] => []
  | x :: xs => ins r x (stab r xs)
/-- No element has a smaller rank than one ahead of it. -/
def Srt (r : α → Int) (l : List α) : Prop := l.Pairwise fun a b => r a ≤ r b

theorem mem_ins (r : α → Int) (x z : α) (l : List α) : z ∈ ins r x l ↔ z = x ∨ z ∈ l := by
  induction l with
  | nil => simp [ins]
  | cons y ys ih =>
    unfold ins
    split
    · simp
    · simp only [List.mem_cons, ih]
      constructor
      · rintro (h | h | h) <;> simp [h]
      · rintro (h | h | h) <;> simp [h]
theorem ins_len (r : α → Int) (x : α) (l : List α) : (ins r x l).length = l.length + 1 := by
  induction l with
  | nil => rfl
  | cons y ys ih =>
    unfold ins
    split
    · rfl
    · simp [ih]
theorem stab_len (r : α → Int) (l : List α) : (stab r l).length = l.length := by
  induction l with
  | nil => rfl
  | cons x xs ih => simp [stab, ins_len, ih]
theorem ins_perm (r : α → Int) (x : α) (l : List α) : (ins r x l).Perm (x :: l) := by
  induction l with
  | nil => exact List.Perm.refl _
  | cons y ys ih =>
    unfold ins
    split
    · exact List.Perm.refl _
    · exact (ih.cons y).trans (List.Perm.swap x y ys)
theorem stab_perm (r : α → Int) (l : List α) : (stab r l).Perm l := by
  induction l with
  | nil => exact List.Perm.refl _
  | cons x xs ih => exact (ins_perm r x _).trans (ih.cons x)
theorem mem_stab (r : α → Int) (l : List α) (z : α) : z ∈ stab r l ↔ z ∈ l := (stab_perm r l).mem_iff
theorem ins_srt (r : α → Int) (x : α) (l : List α) (h : Srt r l) : Srt r (ins r x l) := by
  induction l with
  | nil => simp [ins, Srt]
  | cons y ys ih =>
    unfold Srt at h ih ⊢
    rw [List.pairwise_cons] at h
    unfold ins
    split
    · rename_i hle
      rw [List.pairwise_cons]
      refine ⟨fun z hz => ?_, List.pairwise_cons.2 h⟩
      rcases List.mem_cons.1 hz with rfl | hz
      · exact hle
      · have := h.1 z hz; omega
    · rename_i hlt
      rw [List.pairwise_cons]
      refine ⟨fun z hz => ?_, ih h.2⟩
      rcases (mem_ins r x z ys).1 hz with rfl | hz
      · omega
      · exact h.1 z hz
theorem stab_srt (r : α → Int) (l : List α) : Srt r (stab r l) := by
  induction l with
  | nil => simp [stab, Srt]
  | cons x xs ih => exact ins_srt r x _ ih
theorem ins_filter (r : α → Int) (x : α) (l : List α) (c : Int) : (ins r x l).filter (fun z => r z == c) = (x :: l).filter (fun z => r z == c) := by
  induction l with
  | nil => rfl
  | cons y ys ih =>
    unfold ins
    split
    · rfl
    · rename_i hlt
      rw [List.filter_cons, ih]
      by_cases hy : r y = c
      · have hx : ¬ r x = c := by omega
        simp [hy, hx]
      · by_cases hx : r x = c <;> simp [hy, hx]
/-- Of each rank the elements stand as they stood. -/
theorem stab_filter (r : α → Int) (l : List α) (c : Int) : (stab r l).filter (fun z => r z == c) = l.filter (fun z => r z == c) := by
  induction l with
  | nil => rfl
  | cons x xs ih => rw [stab, ins_filter, List.filter_cons, ih, List.filter_cons]
/-- A sorted list is known by what it has of each rank. -/
theorem srt_uniq (r : α → Int) : ∀ (l m : List α), Srt r l → Srt r m → (∀ c, l.filter (fun z => r z == c) = m.filter (fun z => r z == c)) → l = m
  | [], [], _, _, _ => rfl
  | [], y :: ys, _, _, h => by have := h (r y); simp at this
  | x :: xs, [], _, _, h => by have := h (r x); simp at this
  | x :: xs, y :: ys, hl, hm, h => by
    have hl' := List.pairwise_cons.1 hl
    have hm' := List.pairwise_cons.1 hm
    have hxy : r x = r y := by
      have h1 : x ∈ (y :: ys).filter (fun z => r z == r x) := by rw [← h (r x)]; simp
      have h2 : y ∈ (x :: xs).filter (fun z => r z == r y) := by rw [h (r y)]; simp
      have h1' := (List.mem_filter.1 h1).1
      have h2' := (List.mem_filter.1 h2).1
      rcases List.mem_cons.1 h1' with rfl | h1'
      · rfl
      · rcases List.mem_cons.1 h2' with rfl | h2'
        · rfl
        · have := hm'.1 x h1'; have := hl'.1 y h2'; omega
    have e : x = y := by
      have := h (r x)
      simp [hxy] at this
      exact this.1
    subst e
    rw [srt_uniq r xs ys hl'.2 hm'.2 (fun c => by
      have := h c
      simp only [List.filter_cons] at this
      split at this
      · simpa using this
      · exact this)]
theorem stab_of (r : α → Int) (l m : List α) (hs : Srt r m) (hf : ∀ c, m.filter (fun z => r z == c) = l.filter (fun z => r z == c)) : m = stab r l :=
  srt_uniq r m _ hs (stab_srt r l) fun c => by rw [hf c, stab_filter]
theorem stab_of_srt (r : α → Int) (l : List α) (hs : Srt r l) : stab r l = l := (stab_of r l l hs fun _ => rfl).symm
theorem stab_stab (r : α → Int) (l : List α) : stab r (stab r l) = stab r l := stab_of_srt r _ (stab_srt r l)
/-- Sorting by the ranks of what is looked up. -/
theorem ins_map (r : β → Int) (f : α → β) (x : α) (l : List α) : (ins (fun a => r (f a)) x l).map f = ins r (f x) (l.map f) := by
  induction l with
  | nil => rfl
  | cons y ys ih =>
    simp only [ins, List.map_cons]
    split <;> simp [ih]
theorem stab_map (r : β → Int) (f : α → β) (l : List α) : (stab (fun a => r (f a)) l).map f = stab r (l.map f) := by
  induction l with
  | nil => rfl
  | cons x xs ih => rw [stab, ins_map, ih]; rfl
theorem ins_congr (r s : α → Int) (x : α) (l : List α) (h : ∀ z, z = x ∨ z ∈ l → r z = s z) : ins r x l = ins s x l := by
  induction l with
  | nil => rfl
  | cons y ys ih =>
    simp only [ins]
    rw [h x (.inl rfl), h y (.inr (by simp)), ih fun z hz => h z (by rcases hz with rfl | hz <;> simp [*])]
theorem stab_congr (r s : α → Int) (l : List α) (h : ∀ z ∈ l, r z = s z) : stab r l = stab s l := by
  induction l with
  | nil => rfl
  | cons x xs ih =>
    rw [stab, stab, ih fun z hz => h z (by simp [hz])]
    exact ins_congr r s x _ fun z hz => by
      rcases hz with rfl | hz
      · exact h _ (by simp)
      · exact h _ (by simp [(mem_stab s xs z).1 hz])
/-- Sorting stably a list that is in an order makes it sorted by the ranks, and among equals by that order. -/
theorem ins_lex (r : α → Int) (R : α → α → Prop) (x : α) (l : List α) (hx : ∀ y ∈ l, R x y) (h : l.Pairwise fun a b => r a < r b ∨ r a = r b ∧ R a b) :
    (ins r x l).Pairwise fun a b => r a < r b ∨ r a = r b ∧ R a b := by
  induction l with
  | nil => simp [ins]
  | cons y ys ih =>
    rw [List.pairwise_cons] at h
    unfold ins
    split
    · rename_i hle
      rw [List.pairwise_cons]
      refine ⟨fun z hz => ?_, List.pairwise_cons.2 h⟩
      have hz' := hx z hz
      rcases List.mem_cons.1 hz with rfl | hz
      · rcases Int.lt_or_eq_of_le hle with hh | hh
        · exact .inl hh
        · exact .inr ⟨hh, hz'⟩
      · rcases h.1 z hz with hh | ⟨hh, _⟩
        · exact .inl (by omega)
        · rcases Int.lt_or_eq_of_le hle with h3 | h3
          · exact .inl (by omega)
          · exact .inr ⟨by omega, hz'⟩
    · rename_i hlt
      rw [List.pairwise_cons]
      refine ⟨fun z hz => ?_, ih (fun z hz => hx z (by simp [hz])) h.2⟩
      rcases (mem_ins r x z ys).1 hz with rfl | hz
      · exact .inl (by omega)
      · exact h.1 z hz
theorem stab_lex (r : α → Int) (R : α → α → Prop) (l : List α) (h : l.Pairwise R) : (stab r l).Pairwise fun a b => r a < r b ∨ r a = r b ∧ R a b := by
  induction l with
  | nil => simp [stab]
  | cons x xs ih =>
    rw [List.pairwise_cons] at h
    exact ins_lex r R x _ (fun y hy => h.1 y ((mem_stab r xs y).1 hy)) (ih h.2)
end Go.Proofs.Ytdojnocmapkodaa

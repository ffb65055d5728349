/- Plain mathematics: places of cuts in tables (what a binary search finds). Nothing of the program stands here. -/
namespace Go.Proofs.Ytdojnocmapkodaa

/-- What a binary search hands back of any table: the entry at r is true (or r is n), that ahead of it is not (or r is 0). -/
def Cut (p : Nat → Bool) (n r : Nat) : Prop := r ≤ n ∧ (0 < r → p (r - 1) = false) ∧ (r < n → p r = true)
/-- r is the first place at which the table is true, or n. -/
def First (p : Nat → Bool) (n r : Nat) : Prop := r ≤ n ∧ (∀ j, j < r → p j = false) ∧ (r < n → p r = true)
/-- True everywhere behind a place at which it is. -/
def Mono (p : Nat → Bool) (n : Nat) : Prop := ∀ i j, i ≤ j → j < n → p i = true → p j = true

theorem First.uniq {p : Nat → Bool} {n r s : Nat} (h : First p n r) (k : First p n s) : r = s := by
  obtain ⟨h1, h2, h3⟩ := h
  obtain ⟨k1, k2, k3⟩ := k
  rcases Nat.lt_trichotomy r s with hlt | rfl | hgt
  · have := k2 r hlt; rw [h3 (by omega)] at this; cases this
  · rfl
  · have := h2 s hgt; rw [k3 (by omega)] at this; cases this
theorem Cut.first {p : Nat → Bool} {n r : Nat} (hm : Mono p n) (h : Cut p n r) : First p n r := by
  obtain ⟨h1, h2, h3⟩ := h
  refine ⟨h1, fun j hj => ?_, h3⟩
  cases hp : p j with
  | false => rfl
  | true =>
    have := hm j (r - 1) (by omega) (by omega) hp
    rw [h2 (by omega)] at this; cases this
theorem Mono.of_step {p : Nat → Bool} {n : Nat} (h : ∀ i, i + 1 < n → p i = true → p (i + 1) = true) : Mono p n := by
  intro i j hij hj hp
  induction j with
  | zero => obtain rfl : i = 0 := by omega
            exact hp
  | succ j ih =>
    rcases Nat.lt_or_ge i (j + 1) with hlt | hge
    · exact h j hj (ih (by omega) (by omega))
    · obtain rfl : i = j + 1 := by omega
      exact hp
theorem Cut.congr {p q : Nat → Bool} {n r : Nat} (h : Cut p n r) (e : ∀ i, i < n → p i = q i) : Cut q n r :=
  ⟨h.1, fun h0 => by rw [← e _ (by have := h.1; omega)]; exact h.2.1 h0, fun h1 => by rw [← e _ h1]; exact h.2.2 h1⟩
theorem First.congr {p q : Nat → Bool} {n r : Nat} (h : First p n r) (e : ∀ i, i < n → p i = q i) : First q n r :=
  ⟨h.1, fun j hj => by rw [← e _ (by have := h.1; omega)]; exact h.2.1 j hj, fun h1 => by rw [← e _ h1]; exact h.2.2 h1⟩

/-- A table of marks: behind its end it is true. -/
def mk (l : List Bool) (i : Nat) : Bool := l[i]?.getD true
theorem mk_lt {l : List Bool} {i : Nat} (h : i < l.length) : mk l i = l[i] := by simp [mk, h]
theorem mk_ge {l : List Bool} {i : Nat} (h : l.length ≤ i) : mk l i = true := by simp [mk, h]
/-- The table does not fall, as far as n and its end. -/
def Rises (n : Nat) (l : List Bool) : Prop := ∀ i, 1 ≤ i → i < n → i < l.length → l[i - 1]?.getD false = true → l[i]?.getD false = true
theorem Rises.mono {n : Nat} {l : List Bool} (h : Rises n l) : Mono (mk l) n := Mono.of_step fun i hi hp => by
  rcases Nat.lt_or_ge (i + 1) l.length with hlt | hge
  · have := h (i + 1) (by omega) hi hlt (by rw [Nat.add_sub_cancel]; rw [mk_lt (by omega)] at hp; simp [hp, show i < l.length by omega])
    rw [mk_lt hlt]; simpa [hlt] using this
  · exact mk_ge hge
/-- The table is false ahead of s and true from s on. -/
def Step (p : Nat → Bool) (n s : Nat) : Prop := s ≤ n ∧ ∀ j, j < n → p j = decide (s ≤ j)
theorem Cut.step {p : Nat → Bool} {n r : Nat} (hm : Mono p n) (h : Cut p n r) : Step p n r := by
  have hf := h.first hm
  refine ⟨h.1, fun j hj => ?_⟩
  rcases Nat.lt_or_ge j r with hlt | hge
  · rw [hf.2.1 j hlt, decide_eq_false (by omega)]
  · rw [hm r j hge hj (h.2.2 (by omega)), decide_eq_true hge]
theorem Step.cut {p : Nat → Bool} {n s r : Nat} (h : Step p n s) (k : Cut p n r) : r = s := by
  obtain ⟨h1, h2⟩ := h
  obtain ⟨k1, k2, k3⟩ := k
  rcases Nat.lt_trichotomy r s with hlt | rfl | hgt
  · have := k3 (by omega); rw [h2 r (by omega), decide_eq_true_eq] at this; omega
  · rfl
  · have := k2 (by omega); rw [h2 (r - 1) (by omega), decide_eq_false_iff_not] at this; omega
theorem First.cut {p : Nat → Bool} {n r : Nat} (h : First p n r) : Cut p n r := ⟨h.1, fun h0 => h.2.1 _ (by omega), h.2.2⟩
theorem Step.first {p : Nat → Bool} {n s r : Nat} (h : Step p n s) (k : First p n r) : r = s := h.cut k.cut

theorem Mono.step {p : Nat → Bool} : ∀ {n : Nat}, Mono p n → ∃ s, Step p n s
  | 0, _ => ⟨0, Nat.le_refl _, fun j hj => absurd hj (by omega)⟩
  | n + 1, h => by
    obtain ⟨s, hs, hp⟩ := Mono.step (n := n) fun i j hij hj => h i j hij (by omega)
    rcases Nat.lt_or_ge s n with hlt | hge
    · refine ⟨s, by omega, fun j hj => ?_⟩
      rcases Nat.lt_or_ge j n with h1 | h1
      · exact hp j h1
      · rw [h s j (by omega) hj (by rw [hp s hlt]; simp), decide_eq_true (by omega)]
    · cases hn : p n with
      | true =>
        refine ⟨n, by omega, fun j hj => ?_⟩
        rcases Nat.lt_or_ge j n with h1 | h1
        · rw [hp j h1, decide_eq_false (by omega), decide_eq_false (by omega)]
        · obtain rfl : j = n := by omega
          rw [hn, decide_eq_true (Nat.le_refl _)]
      | false =>
        refine ⟨n + 1, by omega, fun j hj => ?_⟩
        rcases Nat.lt_or_ge j n with h1 | h1
        · rw [hp j h1, decide_eq_false (by omega), decide_eq_false (by omega)]
        · obtain rfl : j = n := by omega
          rw [hn, decide_eq_false (by omega)]

theorem take_snoc {α : Type} (l : List α) (k : Nat) (h : k < l.length) : l.take (k + 1) = l.take k ++ [l[k]] := List.take_succ_eq_append_getElem h
theorem take_snocD {α : Type} (l : List α) (k : Nat) (d : α) (h : k < l.length) : l.take (k + 1) = l.take k ++ [l[k]?.getD d] := by rw [take_snoc l k h]; simp [h]
theorem rev_snocD {α : Type} (l : List α) (n k : Nat) (d : α) (hl : l.length = n) (h : k < n) : l.reverse.take (k + 1) = l.reverse.take k ++ [l[n - 1 - k]?.getD d] := by
  subst hl
  rw [take_snoc _ _ (by simpa using h), List.getElem_reverse]
  simp [show l.length - 1 - k < l.length by omega]
/-- If just the places from a up to m have a property, there are m - a of them. -/
theorem countP_seg {α : Type} (l : List α) (p : α → Bool) (a m : Nat) (ham : a ≤ m) (h : ∀ i x, l[i]? = some x → (p x = true ↔ a ≤ i ∧ i < m)) : ∀ k, k ≤ l.length → (l.take k).countP p = min k m - min k a
  | 0, _ => by simp
  | k + 1, hk => by
    rw [take_snoc l k (by omega), List.countP_append, countP_seg l p a m ham h k (by omega), List.countP_singleton]
    have := h k l[k] (List.getElem?_eq_getElem (by omega))
    by_cases hp : p l[k] = true
    · have := this.1 hp; rw [if_pos hp]; omega
    · have : ¬ (a ≤ k ∧ k < m) := fun hh => hp (this.2 hh)
      rw [if_neg hp]; omega
theorem countP_all {α : Type} (l : List α) (p : α → Bool) (a m : Nat) (ham : a ≤ m) (hm : m ≤ l.length) (h : ∀ i x, l[i]? = some x → (p x = true ↔ a ≤ i ∧ i < m)) : l.countP p = m - a := by
  have := countP_seg l p a m ham h l.length (Nat.le_refl _)
  rw [List.take_of_length_le (Nat.le_refl _)] at this
  omega
end Go.Proofs.Ytdojnocmapkodaa

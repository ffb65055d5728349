/- Plain mathematics: places of cuts in tables (what a binary search finds). Nothing of the program stands here. -/
namespace Go.Proofs.Ytdjlcpfjemmlgaa

/-- What a binary search hands back of any table: the entry at r is true (or r is n), that ahead of it is not (or r is 0). -/
def Cut (p : Nat → Bool) (n r : Nat) : Prop := r ≤ n ∧ (0 < r → p (r - 1) = false) ∧ (r < n → p r = true)
/-- r is the first place at which the table is true, or n. -/
def First (p : Nat → Bool) (n r : Nat) : Prop := r ≤ n ∧ (∀ j, j < r → p j = false) ∧ (r < n → p r = true)
/-- True everywhere behind a place at which it is. -/
def Mono (p : Nat → Bool) (n : Nat) : Prop := ∀ i j, i ≤ j → j < n → p i = true → p j = true

theorem First.uniq {p : Nat → Bool} {n r s : Nat} (h : First p n r) (k : First p n s) : r = s := by
  obtain ⟨h1, h2, h3⟩ := h
  obtain ⟨k1, k2, k3⟩ := k
  rcases Nat.lt_trichotomy r s with hlt | rfl | hgt
  · have := k2 r hlt; rw [h3 (by omega)] at this; cases this
  · rfl
  · have := h2 s hgt; rw [k3 (by omega)] at this; cases this
theorem Cut.first {p : Nat → Bool} {n r : Nat} (hm : Mono p n) (h : Cut p n r) : First p n r := by
  obtain ⟨h1, h2, h3⟩ := h
  refine ⟨h1, fun j hj => ?_, h3⟩
  cases hp : p j with
  | false => rfl
  | true =>
    have := hm j (r - 1) (by omega) (by omega) hp
    rw [h2 (by omega)] at this; cases this
theorem Mono.of_step {p : Nat → Bool} {n : Nat} (h : ∀ i, i + 1 < n → p i = true → p (i + 1) = true) : Mono p n := by
  intro i j hij hj hp
  induction j with
  | zero => obtain rfl : i = 0 := by omega
            exact hp
  | succ j ih =>
    rcases Nat.lt_or_ge i (j + 1) with hlt | hge
    · exact h j hj (ih (by omega) (by omega))
    · obtain rfl : i = j + 1 := by omega
      exact hp
theorem Cut.congr {p q : Nat → Bool} {n r : Nat} (h : Cut p n r) (e : ∀ i, i < n → p i = q i) : Cut q n r :=
  ⟨h.1, fun h0 => by rw [← e _ (by have := h.1; omega)]; exact h.2.1 h0, fun h1 => by rw [← e _ h1]; exact h.2.2 h1⟩
theorem First.congr {p q : Nat → Bool} {n r : Nat} (h : First p n r) (e : ∀ i, i < n → p i = q i) : First q n r :=
  ⟨h.1, fun j hj => by rw [← e _ (by have := h.1; omega)]; exact h.2.1 j hj, fun h1 => by rw [← e _ h1]; exact h.2.2 h1⟩

/-- A table of marks: behind its end it is true. -/
def mk (l : List Bool) (i : Nat) : Bool := l[i]?.getD true
theorem mk_lt {l : List Bool} {i : Nat} (h : i < l.length) : mk l i = l[i] := by simp [mk, h]
theorem mk_ge {l : List Bool} {i : Nat} (h : l.length ≤ i) : mk l i = true := by simp [mk, h]
/-- The table does not fall, as far as n and its end. -/
def Rises (n : Nat) (l : List Bool) : Prop := ∀ i, 1 ≤ i → i < n → i < l.length → l[i - 1]?.getD false = true → l[i]?.getD false = true
theorem Rises.mono {n : Nat} {l : List Bool} (h : Rises n l) : Mono (mk l) n := Mono.of_step fun i hi hp => by
  rcases Nat.lt_or_ge (i + 1) l.length with hlt | hge
  · have := h (i + 1) (by omega) hi hlt (by rw [Nat.add_sub_cancel]; rw [mk_lt (by omega)] at hp; simp [hp, show i < l.length by omega])
    rw [mk_lt hlt]; simpa [hlt] using this
  · exact mk_ge hge
end Go.Proofs.Ytdjlcpfjemmlgaa

/- Plain mathematics under sort.stable: blocks of a list that are sorted. -/
import Derived.Test.YtdojnocmapkodaaSymPlain
namespace Go.Proofs.Ytdojnocmapkodaa

/-- The block of s elements from u on is sorted. -/
def SB (R : List Int) (d : List (Int × Int)) (u s : Nat) : Prop := Srt (rJ R) ((d.drop u).take s)
/-- d has of each rank what d0 has. -/
def Same (R : List Int) (d0 d : List (Int × Int)) : Prop := ∀ c, d.filter (fun z => rJ R z == c) = d0.filter (fun z => rJ R z == c)
theorem sb_left {R : List Int} {A S S' Q : List (Int × Int)} {u s : Nat} (h : u + s ≤ A.length) (hb : SB R (A ++ (S ++ Q)) u s) : SB R (A ++ (S' ++ Q)) u s := by
  unfold SB at hb ⊢
  rw [List.drop_append_of_le_length (by omega), List.take_append_of_le_length (by simp; omega)] at hb ⊢
  exact hb
theorem sb_right {R : List Int} {A S S' Q : List (Int × Int)} {u s : Nat} (hl : S'.length = S.length) (h : A.length + S.length ≤ u) (hb : SB R (A ++ (S ++ Q)) u s) : SB R (A ++ (S' ++ Q)) u s := by
  unfold SB at hb ⊢
  have e : ∀ T : List (Int × Int), T.length = S.length → (A ++ (T ++ Q)).drop u = Q.drop (u - A.length - S.length) := fun T hT => by
    rw [List.drop_append, List.drop_eq_nil_of_le (by omega), List.nil_append, List.drop_append, List.drop_eq_nil_of_le (by omega), List.nil_append, hT]
  rw [e S rfl] at hb
  rw [e S' hl]
  exact hb
theorem sb_at {R : List Int} {A S Q : List (Int × Int)} {u s : Nat} (hu : u = A.length) (hs : s = S.length) (h : Srt (rJ R) S) : SB R (A ++ (S ++ Q)) u s := by
  unfold SB
  subst hu hs
  simpa using h
theorem sb_tail {R : List Int} {A S : List (Int × Int)} {u s : Nat} (hu : u = A.length) (hs : S.length ≤ s) (h : Srt (rJ R) S) : SB R (A ++ (S ++ [])) u s := by
  unfold SB
  subst hu
  rw [List.append_nil, List.drop_left, List.take_of_length_le hs]
  exact h
theorem sb_beyond {R : List Int} {d : List (Int × Int)} {u s : Nat} (h : d.length ≤ u) : SB R d u s := by
  unfold SB
  rw [List.drop_eq_nil_of_le h]
  simp [Srt]
theorem sb_wide {R : List Int} {d : List (Int × Int)} {u s z : Nat} (h : d.length ≤ u + s) (hsz : s ≤ z) (hb : SB R d u s) : SB R d u z := by
  unfold SB at hb ⊢
  rw [List.take_of_length_le (by simp; omega)] at hb ⊢
  exact hb
theorem same_step {R : List Int} {d0 A S Q : List (Int × Int)} (h : Same R d0 (A ++ (S ++ Q))) : Same R d0 (A ++ (stab (rJ R) S ++ Q)) := fun c => by
  rw [← h c]
  simp only [List.filter_append, stab_filter]
theorem same_end {R : List Int} {d0 d : List (Int × Int)} {s : Nat} (h : Same R d0 d) (hs : d.length ≤ s) (hb : SB R d 0 s) : d = stab (rJ R) d0 := by
  refine stab_of (rJ R) d0 d ?_ h
  unfold SB at hb
  rw [List.drop_zero, List.take_of_length_le hs] at hb
  exact hb
/-- Multiples that differ. -/
theorem mul_cases (t k z : Nat) : (t * z + z ≤ k * z) ∨ t = k ∨ (k * z + z ≤ t * z) := by
  rcases Nat.lt_trichotomy t k with h | h | h
  · have := Nat.mul_le_mul_right z (show t + 1 ≤ k by omega); rw [Nat.add_mul, Nat.one_mul] at this; exact Or.inl this
  · exact Or.inr (Or.inl h)
  · have := Nat.mul_le_mul_right z (show k + 1 ≤ t by omega); rw [Nat.add_mul, Nat.one_mul] at this; exact Or.inr (Or.inr this)
theorem cut3 (d : List (Int × Int)) (a b : Nat) (h : a ≤ b) : d = d.take a ++ ((d.drop a).take (b - a) ++ d.drop b) := by
  conv => lhs; rw [← List.take_append_drop a d, ← List.take_append_drop (b - a) (d.drop a), List.drop_drop]
  rw [show a + (b - a) = b by omega]

/-- The blocks so far: those up to a (of z) and those from a on (of s). -/
def Two (R : List Int) (d : List (Int × Int)) (k s z : Nat) : Prop := (∀ t, t < k → SB R d (t * z) z) ∧ (∀ t, k * z ≤ t * s → SB R d (t * s) s)
/-- A block of z out of two of s. -/
theorem two_step {R : List Int} {d : List (Int × Int)} {k s z a : Nat} (h : Two R d k s z) (ha : a = k * z) (hz : z = s + s) (hd : a + z ≤ d.length) :
    Srt (rJ R) ((d.drop a).take s) ∧ Srt (rJ R) ((d.drop (a + s)).take s) ∧ Two R (d.take a ++ (stab (rJ R) ((d.drop a).take z) ++ d.drop (a + z))) (k + 1) s z := by
  have e1 : a = (2 * k) * s := by rw [ha, hz, ← Nat.two_mul, ← Nat.mul_assoc, Nat.mul_comm k 2]
  have e2 : a + s = (2 * k + 1) * s := by rw [Nat.add_mul, ← e1]; omega
  refine ⟨?_, ?_, fun t ht => ?_, fun t ht => ?_⟩
  · have := h.2 (2 * k) (by omega); rw [← e1] at this; exact this
  · have := h.2 (2 * k + 1) (by omega); rw [← e2] at this; exact this
  · rcases Nat.eq_zero_or_pos z with hz0 | hz0
    · rw [hz0]; unfold SB; simp [Srt]
    have hc := cut3 d a (a + z) (by omega)
    rw [show a + z - a = z by omega] at hc
    rcases mul_cases t k z with h1 | h1 | h1
    · have := h.1 t (by
        rcases Nat.lt_or_ge t k with h2 | h2
        · exact h2
        · have := Nat.mul_le_mul_right z h2; omega)
      rw [hc] at this
      exact sb_left (by simp; omega) this
    · subst h1
      exact sb_at (by simp; omega) (by rw [stab_len]; simp; omega) (stab_srt _ _)
    · have := Nat.mul_le_mul_right z (show t ≤ k by omega)
      omega
  · have hc := cut3 d a (a + z) (by omega)
    rw [show a + z - a = z by omega] at hc
    rw [Nat.add_mul, Nat.one_mul, ← ha] at ht
    have := h.2 t (by omega)
    rw [hc] at this
    exact sb_right (by rw [stab_len]) (by simp; omega) this
/-- The last block, which may be short. -/
theorem two_last {R : List Int} {d : List (Int × Int)} {k s z a : Nat} (h : Two R d k s z) (ha : a = k * z) (hz : z = s + s) (hd : d.length < a + z) (hm : a + s < d.length) :
    Srt (rJ R) ((d.drop a).take s) ∧ Srt (rJ R) (d.drop (a + s)) ∧ ∀ t, SB R (d.take a ++ (stab (rJ R) (d.drop a) ++ [])) (t * z) z := by
  have e1 : a = (2 * k) * s := by rw [ha, hz, ← Nat.two_mul, ← Nat.mul_assoc, Nat.mul_comm k 2]
  have e2 : a + s = (2 * k + 1) * s := by rw [Nat.add_mul, ← e1]; omega
  refine ⟨?_, ?_, fun t => ?_⟩
  · have := h.2 (2 * k) (by omega); rw [← e1] at this; exact this
  · have := h.2 (2 * k + 1) (by omega); rw [← e2] at this
    unfold SB at this
    rw [List.take_of_length_le (by simp; omega)] at this
    exact this
  · rcases mul_cases t k z with h1 | h1 | h1
    · have := h.1 t (by
        rcases Nat.lt_or_ge t k with h2 | h2
        · exact h2
        · have := Nat.mul_le_mul_right z h2; omega)
      have hc : d = d.take a ++ (d.drop a ++ []) := by rw [List.append_nil, List.take_append_drop]
      rw [hc] at this
      exact sb_left (by simp; omega) this
    · subst h1
      exact sb_tail (by simp; omega) (by rw [stab_len]; simp; omega) (stab_srt _ _)
    · exact sb_beyond (by simp [stab_len]; omega)
theorem two_done {R : List Int} {d : List (Int × Int)} {k s z a : Nat} (h : Two R d k s z) (ha : a = k * z) (hz : z = s + s) (hs : 0 < s) (hm : d.length ≤ a + s) : ∀ t, SB R d (t * z) z := fun t => by
  have e1 : a = (2 * k) * s := by rw [ha, hz, ← Nat.two_mul, ← Nat.mul_assoc, Nat.mul_comm k 2]
  rcases mul_cases t k z with h1 | h1 | h1
  · exact h.1 t (by
      rcases Nat.lt_or_ge t k with h2 | h2
      · exact h2
      · have := Nat.mul_le_mul_right z h2; omega)
  · subst h1
    have := h.2 (2 * t) (by omega)
    rw [← e1] at this
    rw [← ha]
    exact sb_wide hm (by omega) this
  · exact sb_beyond (by omega)
end Go.Proofs.Ytdojnocmapkodaa
